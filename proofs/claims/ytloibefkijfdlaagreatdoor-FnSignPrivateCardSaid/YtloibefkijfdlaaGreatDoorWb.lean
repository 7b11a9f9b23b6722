/- SHA-512 in plain words: blocks, one behind the other. The hash over any bytes: Digest.Write. The hash over any bytes: a new digest. Walking by hand: further operations. The hash over any bytes: numbers written as bytes. The hash over any bytes: the padding. -/
import Derived.Test.YtloibefkijfdlaaGreatDoorDx
import Derived.Test.YtloibefkijfdlaaGreatDoorSa3
import Derived.Test.YtloibefkijfdlaaGreatDoorWa
import Derived.StillTail
namespace Go.Proofs.YtloibefkijfdlaaGreatDoor
open Go
theorem pr_l0 : (l2B.sum Cb_sha512_blockGeneric (l2B.pre Cb_sha512_blockGeneric)).pr 0 = .l fun a => fixL 80 ((l2B.val Cb_sha512_blockGeneric a).getD 9 []) := rfl
theorem pr_lk : ∀ k, k < 8 → (l2B.sum Cb_sha512_blockGeneric (l2B.pre Cb_sha512_blockGeneric)).pr (k + 1) = .i fun a => d1 ((l2B.val Cb_sha512_blockGeneric a).getD k [])
 | 0, _ | 1, _ | 2, _ | 3, _ | 4, _ | 5, _ | 6, _ | 7, _ => rfl
theorem val_l (a : List (List Int)) : l2B.val Cb_sha512_blockGeneric a = lpRun (l2B.step Cb_sha512_blockGeneric) 81 a := by
 unfold LpI.val; rw [fu_l2B]
theorem V8.ls_get {v : V8} {k : Nat} {x : List (List Int)} (h : k < 8) : (v.ls ++ x).getD k [] = v.ls.getD k [] := by
 simp only [List.getD]
 rw [List.getElem?_append_left (by simpa [V8.ls] using h)]
theorem V8.get8 (v : V8) (x : List Int) : (v.ls ++ [x]).getD 8 [] = x := rfl
theorem d1_ls (v : V8) : ((List.range 8).map fun k => [d1 (v.ls.getD k [])]) = v.ls := rfl
theorem d1_get {x : Int} : ([x] : List Int).getD 0 0 = x := rfl
theorem s4_eq {v : V8} {ws bl : List Int} (h : ws.length = 80) : (s4 v.ls ws bl).take 9 = (rV bl v 80).ls ++ [sch bl 80] := by
 have hT := @s4_T C4B.T v.a v.b v.c v.d v.e v.f v.g v.h ws bl
 rw [← stepT_eq] at hT
 have hin : [[v.a], [v.b], [v.c], [v.d], [v.e], [v.f], [v.g], [v.h], ws, bl] = v.ls ++ [ws, bl] := rfl
 rw [hin] at hT
 have hA : [[v.a], [v.b], [v.c], [v.d], [v.e], [v.f], [v.g], [v.h], [0], ws, bl] = v.ls ++ [[0], ws, bl] := rfl
 simp only [hA] at hT
 have hg0 : gv C4B.T (1000000 + 154) 0 (v.ls ++ [[0], ws, bl]) = sch bl 80 := by
  rw [gv_one lk_g4, pr_l0]
  show fixL 80 ((l2B.val _ _).getD 9 []) = _
  rw [val_l, run_all h]
  show fixL 80 (sch bl 80) = _
  exact fixL_id (sch_len _ _)
 have hgk : ∀ k, k < 8 → gv C4B.T (1000000 + 154) (k + 1) (v.ls ++ [[0], ws, bl]) = [d1 ((rV bl v 80).ls.getD k [])] := fun k hk => by
  rw [gv_one lk_g4, pr_lk k hk]
  show [d1 ((l2B.val _ _).getD k [])] = _
  rw [val_l, run_all h]
  rw [V8.ls_get hk]
 rw [hg0] at hT
 have hmap : ((List.range 8).map fun k => [(gv C4B.T (1000000 + 154) (k + 1) (v.ls ++ [[0], ws, bl])).getD 0 0]) = (rV bl v 80).ls := by
  rw [List.map_congr_left (g := fun k => [d1 ((rV bl v 80).ls.getD k [])]) fun k hk => by rw [hgk k (List.mem_range.1 hk), d1_get]]
  exact d1_ls _
 rw [hmap] at hT
 unfold s4
 split
 ·rename_i r hr
  rw [hr] at hT
  simpa using hT
 ·rename_i hr
  rw [hr] at hT
  cases hT
theorem s3_ls (v : V8) : s3 v.ls = (v.ls, v.ls) := by
 have := @s3_eq v.a v.b v.c v.d v.e v.f v.g v.h
 unfold s3
 rw [show v.ls = [[v.a], [v.b], [v.c], [v.d], [v.e], [v.f], [v.g], [v.h]] from rfl, this]
theorem sA_k {k : Nat} (hk : k < 8) (x y : Int) : sA k [x] [y] = [o64 .add x y] := by
 have := congrArg (fun l => l[k]?) (@sA_eq x y)
 simp only [List.getElem?_map, List.getElem?_range hk, Option.map_some, osE] at this
 unfold sA
 rw [this]; rfl
theorem wl_of {h : List Int} (hl : h.length = 8) : wl h = (V8.of h).ls := by
 match h, hl with
 | [a, b, c, d, e, f, g, i], _ => rfl
theorem xS_core {h : List Int} {S : List (List Int)} {r : V8} {z : List Int} (hl : h.length = 8) (hS : S.take 9 = r.ls ++ [z]) :
  ((List.range 8).map fun k => sA k ((V8.of h).ls.getD k []) (S.getD k [])) = wl (List.zipWith (o64 .add) h r.l) ∧ S.getD 8 [] = z := by
 have hg : ∀ k, k < 9 → S.getD k [] = (r.ls ++ [z]).getD k [] := fun k hk => by
  rw [← hS]
  simp only [List.getD]
  rw [List.getElem?_take_of_lt hk]
 refine ⟨?_, (hg 8 (by omega)).trans (V8.get8 _ _)⟩
 have hk8 : ∀ k, k < 8 → sA k ((V8.of h).ls.getD k []) (S.getD k []) = [o64 .add (h.getD k 0) (r.l.getD k 0)] := fun k hk => by
  rw [hg k (by omega)]
  match k, hk with
  | 0, _ => exact sA_k (by omega) _ _
  | 1, _ => exact sA_k (by omega) _ _
  | 2, _ => exact sA_k (by omega) _ _
  | 3, _ => exact sA_k (by omega) _ _
  | 4, _ => exact sA_k (by omega) _ _
  | 5, _ => exact sA_k (by omega) _ _
  | 6, _ => exact sA_k (by omega) _ _
  | 7, _ => exact sA_k (by omega) _ _
 rw [List.map_congr_left fun k hk => hk8 k (List.mem_range.1 hk)]
 match h, hl with
 | [a, b, c, d, e, f, g, i], _ => rfl
theorem xS_eq {h ws bl : List Int} (hl : h.length = 8) (hw : ws.length = 80) : xS (wl h) ws bl = (wl (cpr h bl), sch bl 80) := by
 have h4 := s4_eq (v := V8.of h) (bl := bl) hw
 unfold cpr
 generalize rV bl (V8.of h) 80 = r at h4 ⊢
 generalize sch bl 80 = z at h4 ⊢
 unfold xS
 rw [wl_of hl, s3_ls]
 simp only
 generalize s4 (V8.of h).ls ws bl = S at h4 ⊢
 obtain ⟨e1, e2⟩ := xS_core hl h4
 rw [e1, e2]
theorem cpr_len {h bl : List Int} (hl : h.length = 8) : (cpr h bl).length = 8 := by
 unfold cpr
 rw [List.length_zipWith, hl]; rfl
theorem bks_eq : ∀ {n : Nat} {h ws xs : List Int}, h.length = 8 → ws.length = 80 → bks n (wl h) ws xs = wl (cprN n h xs)
 | 0, h, ws, xs, _, _ => rfl
 | n + 1, h, ws, xs, hl, hw => by
  unfold bks cprN
  rw [xS_eq hl hw]
  exact bks_eq (cpr_len hl) (sch_len _ _)
theorem blk_eq {n : Nat} {h xs : List Int} (hl : h.length = 8) : blk n h xs = cprN n h xs := by
 unfold blk
 rw [bks_eq hl (by simp), unwl_wl]
theorem cprN_len : ∀ {n : Nat} {h xs : List Int}, h.length = 8 → (cprN n h xs).length = 8
 | 0, _h, _xs, hl => hl
 | n + 1, _h, _xs, hl => cprN_len (n := n) (cpr_len hl)
theorem cprN_add : ∀ {m n : Nat} {h xs : List Int}, cprN (m + n) h xs = cprN n (cprN m h xs) (xs.drop (m * 128))
 | 0, n, h, xs => by simp [cprN]
 | m + 1, n, h, xs => by
  rw [show m + 1 + n = (m + n) + 1 by omega]
  show cprN (m + n) (cpr h (xs.take 128)) (xs.drop 128) = cprN n (cprN m (cpr h (xs.take 128)) (xs.drop 128)) _
  rw [cprN_add, List.drop_drop]
  congr 2; omega
theorem cprN_take : ∀ {n : Nat} {h xs : List Int} {k : Nat}, n * 128 ≤ k → cprN n h (xs.take k) = cprN n h xs
 | 0, h, xs, k, _ => rfl
 | n + 1, h, xs, k, hk => by
  show cprN n (cpr h ((xs.take k).take 128)) ((xs.take k).drop 128) = cprN n (cpr h (xs.take 128)) (xs.drop 128)
  rw [List.take_take, show min 128 k = 128 by omega, List.drop_take, cprN_take (by omega)]
end Go.Proofs.YtloibefkijfdlaaGreatDoor

namespace Go.Proofs.YtloibefkijfdlaaGreatDoor
open Go
def H0 : List Int := [7640891576956012808, 13503953896175478587, 4354685564936845355, 11912009170470909681, 5840696475078001361, 11170449401992604703, 2270897969802886507, 6620516959819538809]
def hst (m : List Int) : List Int := cprN (m.length / 128) H0 m
theorem hst_len (m : List Int) : (hst m).length = 8 := cprN_len rfl
theorem cprN_app {n : Nat} {h m ys : List Int} (hm : n * 128 ≤ m.length) : cprN n h (m ++ ys) = cprN n h m := by
 rw [← cprN_take (xs := m ++ ys) (k := m.length) hm, List.take_left]
theorem hst_app {m ys : List Int} {q : Nat} (hm : m.length = q * 128) : hst (m ++ ys) = cprN (ys.length / 128) (hst m) ys := by
 unfold hst
 have e1 : (m ++ ys).length / 128 = q + ys.length / 128 := by rw [List.length_append, hm]; omega
 rw [e1, cprN_add, cprN_app (by omega), show m.length / 128 = q by omega]
 congr 1
 rw [← hm, List.drop_left]
theorem hst_same {m ys : List Int} (h : m.length % 128 + ys.length < 128) : hst (m ++ ys) = hst m := by
 unfold hst
 rw [List.length_append, show (m.length + ys.length) / 128 = m.length / 128 by omega, cprN_app (by omega)]
theorem hst_fill {m ys : List Int} (h : m.length % 128 + ys.length = 128) : hst (m ++ ys) = cprN 1 (hst m) (m.drop (m.length / 128 * 128) ++ ys) := by
 unfold hst
 rw [List.length_append, show (m.length + ys.length) / 128 = m.length / 128 + 1 by omega, cprN_add, cprN_app (by omega), List.drop_append_of_le_length (by omega)]
structure Dg (w : World) (B o : Nat) (h x : List Int) (nx L : Nat) : Prop where
 hh : MemI true w (B, o) (List.replicate 8 .u64) h
 hx : MemI true w (B, o + 8) (List.replicate 128 .u8) x
 hn : HasC true w B (o + 136) (.int .i64 nx)
 hl : HasC true w B (o + 137) (.int .u64 L)
 hs : HasC true w B (o + 138) (.int .i64 64)
theorem Dg.frm {w w' : World} {B o : Nat} {h x : List Int} {nx L : Nat} {S : Nat → Nat → Prop} (d : Dg w B o h x nx L) (hf : Frm w w' S) (hn : ∀ i, ¬ S B i) : Dg w' B o h x nx L :=
 ⟨d.hh.frm hf fun _ _ => hn _, d.hx.frm hf fun _ _ => hn _, hf.hasC d.hn (hn _), hf.hasC d.hl (hn _), hf.hasC d.hs (hn _)⟩
theorem MemI.setC {w : World} {b o o' : Nat} {ks : List IntKind} {xs : List Int} {v : Value} (h : MemI true w (b, o) ks xs) (hn : o' < o ∨ o + ks.length ≤ o') : MemI true (w.setCell ⟨b, o', none⟩ v) (b, o) ks xs :=
 ⟨h.1, fun i k x hk hx => (h.2 i k x hk hx).set_other (by
  have := (List.getElem?_eq_some_iff.1 hk).1
  show ¬ (b = b ∧ o + i = o')
  omega)⟩
theorem Dg.setN {w : World} {B o : Nat} {h x : List Int} {nx L : Nat} (d : Dg w B o h x nx L) (k : Nat) : Dg (w.setCell ⟨B, o + 136, none⟩ (.int .i64 k)) B o h x k L :=
 ⟨d.hh.setC (by simp), d.hx.setC (by simp), d.hn.set_same, d.hl.set_other (by omega), d.hs.set_other (by omega)⟩
theorem Dg.setL {w : World} {B o : Nat} {h x : List Int} {nx L : Nat} (d : Dg w B o h x nx L) (k : Nat) : Dg (w.setCell ⟨B, o + 137, none⟩ (.int .u64 k)) B o h x nx k :=
 ⟨d.hh.setC (by simp), d.hx.setC (by simp), d.hn.set_other (by omega), d.hl.set_same, d.hs.set_other (by omega)⟩
theorem Dg.lay {w : World} {B o : Nat} {h x : List Int} {nx L : Nat} (d : Dg w B o h x nx L) {ys : List Int} {r : Nat} (hy : ∀ y ∈ ys, 0 ≤ y ∧ y ≤ 255) (hr : r + ys.length ≤ 128) : Dg (w.setCells B (o + 8 + r) (v8 ys)) B o h (Go.Proofs.YtloibefkijfdlaaGreatDoor.lay x ys r) nx L := by
 have hl8 : (v8 ys).length = ys.length := by simp [v8]
 refine ⟨⟨d.hh.1, fun i k x hk hx => hasC_setCells_out (d.hh.2 i k x hk hx) (.inr (.inl ?_))⟩, mem_lay d.hx hy hr, hasC_setCells_out d.hn (by omega), hasC_setCells_out d.hl (by omega), hasC_setCells_out d.hs (by omega)⟩
 have : i < 8 := by have := (List.getElem?_eq_some_iff.1 hk).1; simpa using this
 show o + i < o + 8 + r
 omega
theorem frm_B {w w' : World} {B o : Nat} {v : Value} (h : Frm w w' (fun b _ => b = B)) : Frm w (w'.setCell ⟨B, o, none⟩ v) (fun b _ => b = B) := h.setCell (.inr rfl)
structure Dig (w : World) (B o : Nat) (m : List Int) : Prop where
 ex : ∃ x, Dg w B o (hst m) x (m.length % 128) m.length ∧ x.take (m.length % 128) = m.drop (m.length / 128 * 128)
theorem Dig.frm {w w' : World} {B o : Nat} {m : List Int} {S : Nat → Nat → Prop} (d : Dig w B o m) (hf : Frm w w' S) (hn : ∀ i, ¬ S B i) : Dig w' B o m := by
 obtain ⟨x, h, e⟩ := d.ex
 exact ⟨x, h.frm hf hn, e⟩
theorem wrapu {x : Int} (h : 0 ≤ x) (h2 : x < 18446744073709551616) : IntKind.u64.wrap x = x := wrap_in (k := .u64) ⟨h, by show x ≤ 18446744073709551615; omega⟩
section
variable {P : Program} {ops : Array Oper} {rest : List Oper} {a : Act} {w : World} {n : Nat} {f : Nat → Value} {K : Act → Prop}
theorem st_val {o : Oper} {t : Nat} {v : Value} (F : Fr a n f) (hg : o.guard = none) (hd : o.dst = some t) (ht : Nat.blt t n = true) (h : (execOp a.eval o).run P w = .ok (.value v) w) (hn : ∀ a', Fr a' n (upd f t v) → wpStill P ops w K rest a') : wpStill P ops w K (o :: rest) a := by
 unfold wpStill
 rw [if_pos (by simp [Region.wanted, hg])]
 unfold Oper.still
 rw [h, Oper.stillUpon_value, hd]
 exact hn _ (F.put ht v)
theorem st_move {t x : Nat} {ty : TypeId} {pos : String} {af : Array Edge} (F : Fr a n f) (ht : Nat.blt t n = true) (hn : ∀ a', Fr a' n (upd f t (f x)) → wpStill P ops w K rest a') : wpStill P ops w K (⟨some t, .move (.tmp x), ty, pos, af, none⟩ :: rest) a :=
 st_val F rfl rfl ht (by simp only [execOp, F.ev (t := x) rfl]; rfl) hn
theorem st_nil {t x : Nat} {p : Addr} {ty : TypeId} {pos : String} {af : Array Edge} (F : Fr a n f) (hx : f x = .pointer (some p)) (ht : Nat.blt t n = true) (hn : ∀ a', Fr a' n (upd f t (.pointer (some p))) → wpStill P ops w K rest a') : wpStill P ops w K (⟨some t, .nilCheck (.tmp x), ty, pos, af, none⟩ :: rest) a :=
 st_val F rfl rfl ht (e_nil (F.ev hx)) hn
end
theorem w_sr {P : Program} {Q : Exit → Act → World → Prop} {a : Act} {w : World} {id : Nat} {l : List Oper} {y : Code} (h : wpList P l.toArray (Exit.then (y.wp P Q) Q) l a w) : (Code.seq (.region id l.toArray false) y).wp P Q a w := wp_seq (reg h)
theorem w_end {P : Program} {ops : Array Oper} {Q : Exit → Act → World → Prop} {a : Act} {w : World} {y : Code} (h : y.wp P Q a w) : wpList P ops (Exit.then (y.wp P Q) Q) [] a w := h
theorem and_not127 (x : BitVec 64) : x &&& ~~~(127#64) = (x >>> 7) <<< 7 := by
 have e : ~~~(127#64) = (BitVec.allOnes 64) <<< 7 := by decide
 rw [e]
 apply BitVec.eq_of_getLsbD_eq
 intro i hi
 simp only [BitVec.getLsbD_and, BitVec.getLsbD_shiftLeft, BitVec.getLsbD_allOnes, BitVec.getLsbD_ushiftRight]
 by_cases h : i < 7
 ·simp [h]
 ·have h2 : i - 7 < 64 := by omega
  simp [h, hi, h2, show 7 + (i - 7) = i by omega]
theorem andn_nat {i : Nat} (hi : i < 9223372036854775808) : bits .andNot .i64 (i : Int) 127 = ((i / 128 * 128 : Nat) : Int) := by
 unfold bits
 have e : (BitVec.ofInt 64 (i : Int) &&& ~~~(BitVec.ofInt 64 127)).toNat = i / 128 * 128 := by
  rw [show BitVec.ofInt 64 127 = 127#64 by decide, and_not127]
  simp only [BitVec.toNat_shiftLeft, BitVec.toNat_ushiftRight, BitVec.toNat_ofInt]
  rw [Nat.shiftLeft_eq, Nat.shiftRight_eq_div_pow]
  omega
 show IntKind.i64.wrap ((BitVec.ofInt 64 (i : Int) &&& ~~~(BitVec.ofInt 64 127)).toNat : Int) = _
 rw [e, wrap_in (k := .i64) ⟨by show (-9223372036854775808 : Int) ≤ _; omega, by show _ ≤ (9223372036854775807 : Int); omega⟩]
theorem e_andn {ρ : Operand → Value} {d : Option Tmp} {x y : Operand} {ty : TypeId} {pos : String} {af : Array Edge} {w : World} {i : Nat} (h : ρ x = .int .i64 i) (hy : ρ y = .int .i64 127) (hi : i < 9223372036854775808) : (execOp ρ ⟨d, .binOp .andNot 3 x y 3, ty, pos, af, none⟩).run Tryz.prog w = .ok (.value (.int .i64 ((i / 128 * 128 : Nat) : Int))) w := by
 have := andn_nat hi
 simp [execOp, go_sem, h, hy]
 exact this
structure WrP (GC : Nat → Nat → Option Value) (B o : Nat) (m xs : List Int) (w : World) (e : Ending) (w' : World) : Prop where
 ret : e = .returned (.tuple #[.int .i64 xs.length, .nilIface])
 dig : Dig w' B o (m ++ xs)
 frm : Frm w w' (fun b _ => b = B)
 gw : GW GC w'
theorem gw_frm {GB : Nat} {GC : Nat → Nat → Option Value} {ad : Nat → Nat × Nat} (hG : GOk GB GC ad) {w w' : World} {B : Nat} (h : GW GC w) (hf : Frm w w' (fun b _ => b = B)) (hB : GB ≤ B) : GW GC w' := fun b o v hv => (hf.hasC (f := false) ⟨h b o v hv, fun h => (by cases h)⟩ (fun (e : b = B) => by have := hG.lt b o v hv; omega)).1
structure St1 (GC : Nat → Nat → Option Value) (B o N : Nat) (m1 : List Int) (w0 w : World) : Prop where
 frm : Frm w0 w (fun b _ => b = B)
 gw : GW GC w
 dg : ∃ x, Dg w B o (hst m1) x (m1.length % 128) N ∧ x.take (m1.length % 128) = m1.drop (m1.length / 128 * 128)
structure Fx (B o N : Nat) (v : Value) (a : Act) (f : Nat → Value) : Prop where
 fr : Fr a 85 f
 f0 : f 0 = .pointer (some ⟨B, o, none⟩)
 f1 : f 1 = v
 f4 : f 4 = .int .i64 N
 f5 : f 5 = .nilIface
theorem Fx.pin {B o N : Nat} {v : Value} {a : Act} {f : Nat → Value} (h : Fx B o N v a f) : Fr a 85 (upd (upd (upd (upd f 0 (.pointer (some ⟨B, o, none⟩))) 1 v) 4 (.int .i64 N)) 5 .nilIface) :=
 (((h.fr.pin h.f0).pin (t := 1) (by rw [upd_ne (by omega)]; exact h.f1)).pin (t := 4) (by rw [upd_ne (by omega), upd_ne (by omega)]; exact h.f4)).pin (t := 5) (by rw [upd_ne (by omega), upd_ne (by omega), upd_ne (by omega)]; exact h.f5)
theorem St1.heap {GC : Nat → Nat → Option Value} {B o N : Nat} {m1 : List Int} {w0 w w' : World} (h : St1 GC B o N m1 w0 w) (hf : Frm w w' (fun b _ => b = B)) (hg : GW GC w') {x' : List Int} (hd : Dg w' B o (hst m1) x' (m1.length % 128) N) (hx : x'.take (m1.length % 128) = m1.drop (m1.length / 128 * 128)) : St1 GC B o N m1 w0 w' :=
 ⟨h.frm.trans hf, hg, x', hd, hx⟩
theorem e_copyP {ρ : Operand → Value} {d : Option Tmp} {x y : Operand} {ty : TypeId} {pos : String} {af : Array Edge} {w : World} {B b o k c : Nat} {v : Value} {ys : List Int} (hx : ρ x = .slice (some ⟨b, o, none⟩) k c) (hy : ρ y = v) (hp : PSl w B v ys) (hd : ∀ i, i < k → ∃ u, HasC true w b (o + i) u) :
  (execOp ρ ⟨d, .call ⟨.builtin .copy, #[x, y], #[22, 22]⟩, ty, pos, af, none⟩).run Tryz.prog w = .ok (.value (.int .i64 (min k ys.length : Nat))) (w.setCells b o (v8 (ys.take k))) := by
 obtain ⟨ap, c', rfl, h2, h3, h4⟩ := hp
 by_cases h0 : Nat.min ys.length k = 0
 ·have e1 : min k ys.length = 0 := by rw [Nat.min_comm]; exact h0
  have e2 : ys.take k = [] := List.eq_nil_of_length_eq_zero (by rw [List.length_take]; exact e1)
  rw [e1, e2]
  exact e_copy0 hx hy h0
 ·have h0' : 0 < ys.length := by
   rcases Nat.eq_zero_or_pos ys.length with h | h
   ·exact absurd (by rw [h]; exact Nat.zero_min k) h0
   ·exact h
  obtain ⟨b', o', rfl, hb, hc⟩ := h4 h0'
  have hl : (ys.take k).length = Nat.min ys.length k := by rw [List.length_take]; exact Nat.min_comm _ _
  have := e_copy (d := d) (ty := ty) (pos := pos) (af := af) (w := w) (ys := ys.take k) hx hy hl (fun i hi => by
   rw [List.length_take] at hi
   rw [addr_add, hc i (by omega)]
   simp [List.getD, show i < k by omega]) (fun i hi => by rw [List.length_take] at hi; exact hd i (by omega))
  rw [List.length_take] at this
  exact this
theorem e_copyA {ρ : Operand → Value} {d : Option Tmp} {x y : Operand} {ty : TypeId} {pos : String} {af : Array Edge} {w : World} {B b o k c : Nat} {v : Value} {ys : List Int} (hx : ρ x = .slice (some ⟨b, o, none⟩) k c) (hy : ρ y = v) (hp : PSl w B v ys) (hk : ys.length ≤ k) (hd : ∀ i, i < k → ∃ u, HasC true w b (o + i) u) :
  (execOp ρ ⟨d, .call ⟨.builtin .copy, #[x, y], #[22, 22]⟩, ty, pos, af, none⟩).run Tryz.prog w = .ok (.value (.int .i64 ys.length)) (w.setCells b o (v8 ys)) := by
 have := e_copyP (d := d) (ty := ty) (pos := pos) (af := af) hx hy hp hd
 rwa [show min k ys.length = ys.length by omega, List.take_of_length_le hk] at this
theorem w_nil_skip {P : Program} {Q : Exit → Act → World → Prop} {a : Act} {w : World} (h : Q .normal a w) : Code.skip.wp P Q a w := wp_skip h
theorem block_any {GB : Nat} {GC : Nat → Nat → Option Value} {ad : Nat → Nat × Nat} (hG : GOk GB GC ad) {w : World} {B o n pb po c : Nat} {h xs : List Int} (hgw : GW GC w) (hGB : GB ≤ w.heap.size) (hB : GB ≤ B) (hh : MemI true w (B, o) (List.replicate 8 .u64) h) (hp : MemI false w (pb, po) (List.replicate (n * 128) .u8) xs) (hn : 0 < n) (hc : n * 128 ≤ c) :
  Calls Tryz.prog 109 #[.pointer (some ⟨B, o, none⟩), .slice (some ⟨pb, po, none⟩) (n * 128) c] w (BlkP GC B o n h xs w) := by
 refine enter (args := [.pointer (some ⟨B, o, none⟩), .slice (some ⟨pb, po, none⟩) (n * 128) c]) Tryz.func109 rfl (n := 7) rfl fun a F => ?_
 refine reg (w_move F rfl fun a F => w_move F rfl fun a F => w_call F rfl rfl rfl (e_call2 rfl (F.ev rfl) (F.ev rfl) Tryz.call154) (blk_any hG hgw hGB hB hh hp hn hc) fun e w5 h5 => ⟨_, h5.ret, fun a F => w_nil ?_⟩)
 refine ⟨F.df, .tuple #[], by simp [results, go_sem], rfl, h5.mem, h5.frm, h5.gw⟩
set_option maxRecDepth 100000 in
set_option maxHeartbeats 1000000 in
theorem write_any {GB : Nat} {GC : Nat → Nat → Option Value} {ad : Nat → Nat × Nat} (hG : GOk GB GC ad) {w : World} {B o : Nat} {m xs : List Int} {v : Value} (hgw : GW GC w) (hGB : GB ≤ w.heap.size) (hB : GB ≤ B) (hd : Dig w B o m) (hp : PSl w B v xs) (hlen : m.length + xs.length < 1152921504606846976) :
  Calls Tryz.prog 93 #[.pointer (some ⟨B, o, none⟩), v] w (WrP GC B o m xs w) := by
 obtain ⟨x, D, hxm⟩ := hd.ex
 have hp0 := hp
 obtain ⟨ap, c, rfl, hc, hr, -⟩ := hp
 refine enter (args := [.pointer (some ⟨B, o, none⟩), .slice ap xs.length c]) Tryz.func93 rfl (n := 85) rfl fun a F => ?_
 refine w_sr (w_const F rfl fun a F => w_const F rfl fun a F => w_end ?_)
 refine w_sr (w_move F rfl fun a F => w_val F rfl rfl rfl (e_len (F.ev rfl)) fun a F => w_assign F rfl fun a F => w_end ?_)
 refine w_sr (w_move F rfl fun a F => w_nil' F rfl rfl fun a F => w_val F rfl rfl rfl (e_f3 (F.ev rfl)) fun a F => w_val F rfl rfl rfl (e_ldu (F.ev rfl) D.hl.1) fun a F => w_move F rfl fun a F => w_val F rfl rfl rfl (e_iu (F.ev rfl)) fun a F =>
  w_val F rfl rfl rfl (e_addu (F.ev rfl) (F.ev rfl)) fun a F => w_nil' F rfl rfl fun a F => w_val F rfl rfl rfl (e_f3 (F.ev rfl)) fun a F => w_skip F rfl rfl (e_stu (F.ev rfl) (F.ev rfl) D.hl) fun a F => w_end ?_)
 have hN : IntKind.u64.wrap ((m.length : Int) + IntKind.u64.wrap (xs.length : Int)) = ((m.length + xs.length : Nat) : Int) := by
  rw [wrapu (x := (xs.length : Int)) (by omega) (by omega), wrapu (by omega) (by omega)]; omega
 rw [hN]
 have D1 : Dg (w.setCell ⟨B, o + 137, none⟩ (.int .u64 ((m.length + xs.length : Nat) : Int))) B o (hst m) x (m.length % 128) (m.length + xs.length) := D.setL _
 have hf1 : Frm w (w.setCell ⟨B, o + 137, none⟩ (.int .u64 ((m.length + xs.length : Nat) : Int))) (fun b _ => b = B) := frm_B (Frm.refl _ _)
 generalize w.setCell ⟨B, o + 137, none⟩ (.int .u64 ((m.length + xs.length : Nat) : Int)) = w1 at D1 hf1 ⊢
 have hp1 := hp0.frm hf1
 have hgw1 := gw_frm hG hgw hf1 hB
 generalize hM : m.length + xs.length = N at D1 hlen ⊢
 refine w_seqJ (J := fun a w' => ∃ f m1 ys v, m1 ++ ys = m ++ xs ∧ Fx B o xs.length v a f ∧ PSl w' B v ys ∧ (ys = [] ∨ m1.length % 128 = 0) ∧ St1 GC B o N m1 w w') ?_ ?_
 ·refine w_sr (w_move F rfl fun a F => w_nil' F rfl rfl fun a F => w_val F rfl rfl rfl (e_f2 (F.ev rfl)) fun a F => w_val F rfl rfl rfl (e_ldi (F.ev rfl) D1.hn.1) fun a F => w_val F rfl rfl rfl (e_gtr (F.ev rfl) rfl) fun a F => w_end (w_if F rfl (fun hb => ?_) fun hb => ?_))
  ·have hr0 : 0 < m.length % 128 := by have := of_decide_eq_true hb; omega
   refine wp_seq (wp_region_still_tail 9 mixed (by kernel_rfl) ?_)
   have e1 : ({ w1 with drawn := w1.drawn + 1 } : World).heap = w1.heap := rfl
   have hfd : Frm w1 { w1 with drawn := w1.drawn + 1 } (fun b _ => b = B) := (Frm.refl _ _).of_heap rfl rfl rfl rfl
   have D2 : Dg { w1 with drawn := w1.drawn + 1 } B o (hst m) x (m.length % 128) N := D1.frm ((Frm.refl w1 (fun _ _ => False)).of_heap (w' := { w1 with drawn := w1.drawn + 1 }) rfl rfl rfl rfl) fun _ h => h
   generalize ({ w1 with drawn := w1.drawn + 1 } : World) = w2 at D2 hfd ⊢
   have hp2 := hp1.frm hfd
   have hgw2 := gw_frm hG hgw1 hfd hB
   refine st_move F rfl fun a F => st_nil F rfl rfl fun a F => st_val F rfl rfl rfl (e_f1 (F.ev rfl)) fun a F => st_move F rfl fun a F => st_nil F rfl rfl fun a F => st_val F rfl rfl rfl (e_f2 (F.ev rfl)) fun a F => st_val F rfl rfl rfl (e_ldi (F.ev rfl) D2.hn.1) fun a F =>
    st_val F rfl rfl rfl (e_xlo (F.ev rfl) (F.ev rfl) (by omega)) fun a F => st_move F rfl fun a F => ?_
   refine w_val F rfl rfl rfl (e_copyP (F.ev rfl) (F.ev rfl) hp2 (fun i hi => ⟨_, by
    have := (D2.hx.at8 (i := m.length % 128 + i) (by omega)).1
    rwa [← Nat.add_assoc] at this⟩)) fun a F => w_assign F rfl fun a F => w_end ?_
   generalize hys : xs.take (128 - m.length % 128) = ys at F ⊢
   generalize hk : min (128 - m.length % 128) xs.length = k at F ⊢
   have hyl : ys.length = k := by rw [← hys, List.length_take]; exact hk
   have hy8 : ∀ y ∈ ys, 0 ≤ y ∧ y ≤ 255 := fun y hy => hr y (by rw [← hys] at hy; exact List.mem_of_mem_take hy)
   have hyx : ys = xs.take k := by rw [← hys, ← hk, List.take_eq_take_iff]; omega
   have D3 := D2.lay (ys := ys) (r := m.length % 128) hy8 (by omega)
   have hf3 : Frm w2 (w2.setCells B (o + 8 + m.length % 128) (v8 ys)) (fun b _ => b = B) := frm_setCells _ _ (Frm.refl _ _) fun _ _ => .inr rfl
   have hx3 : (lay x ys (m.length % 128)).take (m.length % 128 + k) = m.drop (m.length / 128 * 128) ++ ys := by
    have hxl := D.hx.len8
    unfold lay
    rw [hxm, ← List.append_assoc]
    refine List.take_left' ?_
    rw [List.length_append, List.length_drop, hyl]; omega
   have hxl3 : (lay x ys (m.length % 128)).length = 128 := by rw [lay_len (by have := D.hx.len8; omega)]; exact D.hx.len8
   generalize lay x ys (m.length % 128) = x3 at D3 hx3 hxl3
   generalize w2.setCells B (o + 8 + m.length % 128) (v8 ys) = w3 at D3 hf3 ⊢
   have hgw3 := gw_frm hG hgw2 hf3 hB
   refine w_sr (w_move F rfl fun a F => w_nil' F rfl rfl fun a F => w_val F rfl rfl rfl (e_f2 (F.ev rfl)) fun a F => w_val F rfl rfl rfl (e_ldi (F.ev rfl) D3.hn.1) fun a F => w_move F rfl fun a F => w_val F rfl rfl rfl (e_addi (F.ev rfl) (F.ev rfl)) fun a F =>
    w_nil' F rfl rfl fun a F => w_val F rfl rfl rfl (e_f2 (F.ev rfl)) fun a F => w_skip F rfl rfl (e_sti (F.ev rfl) (F.ev rfl) D3.hn) fun a F => w_end ?_)
   have hadd : IntKind.i64.wrap (((m.length % 128 : Nat) : Int) + ((k : Nat) : Int)) = ((m.length % 128 + k : Nat) : Int) := by
    rw [wr64 (by omega) (by omega)]; omega
   rw [hadd] at F ⊢
   have D4 : Dg (w3.setCell ⟨B, o + 136, none⟩ (.int .i64 ((m.length % 128 + k : Nat) : Int))) B o (hst m) x3 (m.length % 128 + k) N := D3.setN _
   have hf4 : Frm w3 (w3.setCell ⟨B, o + 136, none⟩ (.int .i64 ((m.length % 128 + k : Nat) : Int))) (fun b _ => b = B) := frm_B (Frm.refl _ _)
   generalize w3.setCell ⟨B, o + 136, none⟩ (.int .i64 ((m.length % 128 + k : Nat) : Int)) = w4 at D4 hf4 ⊢
   have hgw4 := gw_frm hG hgw3 hf4 hB
   have hf14 : Frm w w4 (fun b _ => b = B) := ((hf1.trans hfd).trans hf3).trans hf4
   have hml : (m ++ ys).length = m.length + k := by rw [List.length_append, hyl]
   refine w_seqJ (J := fun a w' => ∃ f, Fx B o xs.length (.slice ap xs.length c) a f ∧ f 6 = .int .i64 (k : Nat) ∧ St1 GC B o N (m ++ ys) w w') ?_ ?_
   ·refine w_sr (w_move F rfl fun a F => w_nil' F rfl rfl fun a F => w_val F rfl rfl rfl (e_f2 (F.ev rfl)) fun a F => w_val F rfl rfl rfl (e_ldi (F.ev rfl) D4.hn.1) fun a F => w_val F rfl rfl rfl (e_eql (F.ev rfl) rfl) fun a F => w_end (w_if F rfl (fun hb => ?_) fun hb => ?_))
    ·have hfull : m.length % 128 + k = 128 := by have := eq_of_beq hb; omega
     have hpx : MemI false w4 (B, o + 8) (List.replicate (1 * 128) .u8) x3 := ⟨D4.hx.1, fun i k x hk hx => (D4.hx.2 i k x hk hx).weak⟩
     refine w_sr (w_move F rfl fun a F => w_move F rfl fun a F => w_nil' F rfl rfl fun a F => w_val F rfl rfl rfl (e_f1 (F.ev rfl)) fun a F => w_val F rfl rfl rfl (e_xal (F.ev rfl)) fun a F =>
      w_call F rfl rfl rfl (e_call2 rfl (F.ev rfl) (F.ev rfl) Tryz.call109) (block_any (n := 1) (pb := B) (po := o + 8) (c := 128) hG hgw4 (Nat.le_trans hGB hf14.1) hB D4.hh hpx (by omega) (by omega)) fun e w5 h5 => ⟨_, h5.ret, fun a F => w_end ?_⟩)
     have hf5 : Frm w4 w5 (fun b _ => b = B) := h5.frm.mono fun b i _ h => h.1
     have D5 : Dg w5 B o (blk 1 (hst m) x3) x3 (m.length % 128 + k) N := ⟨h5.mem, D4.hx.frm h5.frm fun i _ h => by omega, h5.frm.hasC D4.hn (by omega), h5.frm.hasC D4.hl (by omega), h5.frm.hasC D4.hs (by omega)⟩
     refine reg (w_move F rfl fun a F => w_nil' F rfl rfl fun a F => w_val F rfl rfl rfl (e_f2 (F.ev rfl)) fun a F => w_skip F rfl rfl (e_sti (F.ev rfl) rfl D5.hn) fun a F => w_nil ⟨rfl, _, ⟨F, rfl, rfl, rfl, rfl⟩, rfl, ?_⟩)
     have D6 : Dg (w5.setCell ⟨B, o + 136, none⟩ (.int .i64 0)) B o (blk 1 (hst m) x3) x3 0 N := D5.setN 0
     have hf6 : Frm w5 (w5.setCell ⟨B, o + 136, none⟩ (.int .i64 0)) (fun b _ => b = B) := frm_B (Frm.refl _ _)
     have hh : blk 1 (hst m) x3 = hst (m ++ ys) := by
      rw [blk_eq (hst_len m), hst_fill (by omega)]
      rw [← hx3, hfull, List.take_of_length_le (by omega)]
     rw [hh] at D6
     have hmod : (m ++ ys).length % 128 = 0 := by omega
     refine ⟨(hf14.trans hf5).trans hf6, gw_frm hG h5.gw hf6 hB, x3, by rw [hmod]; exact D6, ?_⟩
     rw [hmod, List.drop_of_length_le (by omega)]; rfl
    ·have hlt : m.length % 128 + k < 128 := by
      have : ¬ (((m.length % 128 + k : Nat) : Int) = 128) := by simpa using hb
      omega
     refine w_nil_skip ⟨rfl, _, ⟨F, rfl, rfl, rfl, rfl⟩, rfl, hf14, hgw4, x3, ?_, ?_⟩
     ·rw [hst_same (by omega), hml, show (m.length + k) % 128 = m.length % 128 + k by omega]
      exact D4
     ·rw [hml, show (m.length + k) % 128 = m.length % 128 + k by omega, hx3, show (m.length + k) / 128 = m.length / 128 by omega, List.drop_append_of_le_length (by omega)]
   ·rintro a w5 ⟨f, Fx1, h6, S5⟩
    have F := Fx1.pin.pin (t := 6) (v := .int .i64 (k : Nat)) (by rw [upd_ne (by omega), upd_ne (by omega), upd_ne (by omega), upd_ne (by omega)]; exact h6)
    have hp5 := hp0.frm S5.frm
    refine reg (w_move F rfl fun a F => w_move F rfl fun a F => w_val F rfl rfl rfl (e_slo (F.ev rfl) (F.ev rfl) (by omega) hc) fun a F => w_assign F rfl fun a F => w_nil ⟨rfl, _, m ++ ys, xs.drop k, _, ?_, ⟨F, rfl, rfl, rfl, rfl⟩, hp5.drop k (by omega) _ _ _ rfl, ?_, S5⟩)
    ·rw [hyx, List.append_assoc, List.take_append_drop]
    ·by_cases hkk : k = xs.length
     ·left; rw [hkk]; exact List.drop_length
     ·right; omega
  ·have hr0 : m.length % 128 = 0 := by
    have : ¬ ((0 : Int) < ((m.length % 128 : Nat) : Int)) := of_decide_eq_false hb
    omega
   exact w_nil_skip ⟨rfl, _, m, xs, _, rfl, ⟨F, rfl, rfl, rfl, rfl⟩, hp1, .inr hr0, hf1, hgw1, x, D1, hxm⟩
 ·rintro a w2 ⟨f, m1, ys, v, hmy, Fx1, hpy, hor, S1⟩
  have F := Fx1.pin
  have hmyl : m1.length + ys.length = N := by
   have := congrArg List.length hmy
   rw [List.length_append, List.length_append] at this
   omega
  obtain ⟨ap1, c1, rfl, hc1, hr1, hpos1⟩ := id hpy
  refine w_seqJ (J := fun a w' => ∃ f m1 ys v, m1 ++ ys = m ++ xs ∧ Fx B o xs.length v a f ∧ PSl w' B v ys ∧ (ys = [] ∨ m1.length % 128 = 0) ∧ ys.length < 128 ∧ St1 GC B o N m1 w w') ?_ ?_
  ·refine w_sr (w_move F rfl fun a F => w_val F rfl rfl rfl (e_len (F.ev rfl)) fun a F => w_val F rfl rfl rfl (e_geq (F.ev rfl) rfl) fun a F => w_end (w_if F rfl (fun hb => ?_) fun hb => ?_))
   ·have hge : 128 ≤ ys.length := by have := of_decide_eq_true hb; omega
    have hr0 : m1.length % 128 = 0 := hor.resolve_left (fun h => by rw [h] at hge; simp at hge)
    obtain ⟨b0, o0, rfl, hbB, hcell⟩ := hpos1 (by omega)
    clear hpos1
    obtain ⟨x2, D2, hx2⟩ := S1.dg
    refine w_sr (w_move F rfl fun a F => w_val F rfl rfl rfl (e_len (F.ev rfl)) fun a F => w_val F rfl rfl rfl (e_andn (F.ev rfl) rfl (by omega)) fun a F => w_assign F rfl fun a F => w_end ?_)
    have hpm : MemI false w2 (b0, o0) (List.replicate (ys.length / 128 * 128) .u8) (ys.take (ys.length / 128 * 128)) := mem8 (by rw [List.length_take]; omega) (fun y hy => hr1 y (List.mem_of_mem_take hy)) fun i hi => ⟨by
     rw [hcell i (by omega)]
     simp [List.getD, hi], fun h => by cases h⟩
    refine w_sr (w_move F rfl fun a F => w_move F rfl fun a F => w_move F rfl fun a F => w_val F rfl rfl rfl (e_shi (F.ev rfl) (F.ev rfl) (by omega)) fun a F =>
     w_call F rfl rfl rfl (e_call2 rfl (F.ev rfl) (F.ev rfl) Tryz.call109) (block_any (n := ys.length / 128) (pb := b0) (po := o0) (c := c1) hG S1.gw (Nat.le_trans hGB S1.frm.1) hB D2.hh hpm (by omega) (by omega)) fun e w3 h3 => ⟨_, h3.ret, fun a F => w_end ?_⟩)
    have hf3 : Frm w2 w3 (fun b _ => b = B) := h3.frm.mono fun b i _ h => h.1
    have hh : blk (ys.length / 128) (hst m1) (ys.take (ys.length / 128 * 128)) = hst (m1 ++ ys.take (ys.length / 128 * 128)) := by
     rw [blk_eq (hst_len m1), hst_app (q := m1.length / 128) (by omega), List.length_take, show min (ys.length / 128 * 128) ys.length / 128 = ys.length / 128 by omega]
    have D3 : Dg w3 B o (hst (m1 ++ ys.take (ys.length / 128 * 128))) x2 (m1.length % 128) N := ⟨by rw [← hh]; exact h3.mem, D2.hx.frm h3.frm fun i _ h => by omega, h3.frm.hasC D2.hn (by omega), h3.frm.hasC D2.hl (by omega), h3.frm.hasC D2.hs (by omega)⟩
    have hl3 : (m1 ++ ys.take (ys.length / 128 * 128)).length = m1.length + ys.length / 128 * 128 := by rw [List.length_append, List.length_take]; omega
    refine reg (w_move F rfl fun a F => w_move F rfl fun a F => w_val F rfl rfl rfl (e_slo (F.ev rfl) (F.ev rfl) (by omega) hc1) fun a F => w_assign F rfl fun a F => w_nil ⟨rfl, _, m1 ++ ys.take (ys.length / 128 * 128), ys.drop (ys.length / 128 * 128), _, ?_, ⟨F, rfl, rfl, rfl, rfl⟩, (hpy.frm hf3).drop _ (by omega) _ _ _ rfl, .inr (by omega), by rw [List.length_drop]; omega, S1.frm.trans hf3, h3.gw, x2, ?_, ?_⟩)
    ·rw [List.append_assoc, List.take_append_drop, hmy]
    ·rw [show (m1 ++ ys.take (ys.length / 128 * 128)).length % 128 = m1.length % 128 by omega]; exact D3
    ·rw [show (m1 ++ ys.take (ys.length / 128 * 128)).length % 128 = 0 by omega, List.drop_of_length_le (by omega)]; rfl
   ·have hlt : ys.length < 128 := by have := of_decide_eq_false hb; omega
    exact w_nil_skip ⟨rfl, _, m1, ys, _, hmy, ⟨F, rfl, rfl, rfl, rfl⟩, hpy, hor, hlt, S1⟩
  ·clear F Fx1 hpy hor S1 hmy hmyl hc1 hr1 hpos1
   rintro a w3 ⟨f, m2, zs, v, hmz, Fx2, hpz, hor, hlt, S2⟩
   have F := Fx2.pin
   have hmzl : m2.length + zs.length = N := by
    have := congrArg List.length hmz
    rw [List.length_append, List.length_append] at this
    omega
   obtain ⟨ap2, c2, rfl, hc2, hr2, -⟩ := id hpz
   refine w_seqJ (J := fun a w' => ∃ f, Fx B o xs.length (.slice ap2 zs.length c2) a f ∧ St1 GC B o N (m2 ++ zs) w w') ?_ ?_
   ·refine w_sr (w_move F rfl fun a F => w_val F rfl rfl rfl (e_len (F.ev rfl)) fun a F => w_val F rfl rfl rfl (e_gtr (F.ev rfl) rfl) fun a F => w_end (w_if F rfl (fun hb => ?_) fun hb => ?_))
    ·have hgt : 0 < zs.length := by have := of_decide_eq_true hb; omega
     have hr0 : m2.length % 128 = 0 := hor.resolve_left (fun h => by rw [h] at hgt; simp at hgt)
     obtain ⟨x3, D3, hx3⟩ := S2.dg
     have D4 := D3.lay (ys := zs) (r := 0) hr2 (by omega)
     have hf4 : Frm w3 (w3.setCells B (o + 8 + 0) (v8 zs)) (fun b _ => b = B) := frm_setCells _ _ (Frm.refl _ _) fun _ _ => .inr rfl
     refine reg (w_move F rfl fun a F => w_move F rfl fun a F => w_nil' F rfl rfl fun a F => w_val F rfl rfl rfl (e_f1 (F.ev rfl)) fun a F => w_val F rfl rfl rfl (e_xal (F.ev rfl)) fun a F => w_move F rfl fun a F =>
      w_val F rfl rfl rfl (e_copyA (F.ev rfl) (F.ev rfl) hpz (by omega) (fun i hi => ⟨_, (D3.hx.at8 hi).1⟩)) fun a F => w_nil' F rfl rfl fun a F => w_val F rfl rfl rfl (e_f2 (F.ev rfl)) fun a F => w_skip F rfl rfl (e_sti (F.ev rfl) (F.ev rfl) D4.hn) fun a F => w_nil ⟨rfl, _, ⟨F, rfl, rfl, rfl, rfl⟩, ?_⟩)
     have D5 := D4.setN zs.length
     have hf5 := frm_B (o := o + 136) (v := .int .i64 (zs.length : Nat)) hf4
     have hh : hst (m2 ++ zs) = hst m2 := hst_same (by omega)
     have hl5 : (m2 ++ zs).length = m2.length + zs.length := List.length_append
     refine ⟨S2.frm.trans hf5, gw_frm hG S2.gw hf5 hB, lay x3 zs 0, ?_, ?_⟩
     ·rw [hh, hl5, show (m2.length + zs.length) % 128 = zs.length by omega]; exact D5
     ·rw [hl5, show (m2.length + zs.length) % 128 = zs.length by omega, show (m2.length + zs.length) / 128 * 128 = m2.length by omega, List.drop_left]
      unfold lay
      rw [List.take_zero, List.nil_append, List.take_left]
    ·have h0 : zs = [] := List.eq_nil_of_length_eq_zero (by have := of_decide_eq_false hb; omega)
     refine w_nil_skip ⟨rfl, _, ⟨F, rfl, rfl, rfl, rfl⟩, ?_⟩
     subst h0
     rw [List.append_nil]; exact S2
   ·rintro a w4 ⟨f, Fx3, S3⟩
    rw [hmz] at S3
    refine w_ret ⟨Fx3.fr.df, .tuple #[.int .i64 xs.length, .nilIface], ?_, rfl, ⟨?_⟩, S3.frm, S3.gw⟩
    ·have h4 := Fx3.fr.tm 4
     have h5 := Fx3.fr.tm 5
     rw [Fx3.f4] at h4
     rw [Fx3.f5] at h5
     rw [Array.getD_eq_getD_getElem?] at h4 h5
     simp [results, Tryz.results93, go_sem, h4, h5]
    ·obtain ⟨x4, D4, hx4⟩ := S3.dg
     have e : (m ++ xs).length = N := by rw [List.length_append, hM]
     refine ⟨x4, ?_, hx4⟩
     rw [e] at D4 ⊢
     exact D4
end Go.Proofs.YtloibefkijfdlaaGreatDoor

namespace Go.Proofs.YtloibefkijfdlaaGreatDoor
open Go
theorem MemI.app {f : Bool} {w : World} {b o : Nat} {ks js : List IntKind} {xs ys : List Int} (h : MemI f w (b, o) (ks ++ js) (xs ++ ys)) (hl : ks.length = xs.length) : MemI f w (b, o) ks xs ∧ MemI f w (b, o + ks.length) js ys := by
 obtain ⟨⟨h1, h2⟩, h3⟩ := h
 rw [List.length_append, List.length_append] at h1
 have kL : ∀ {i : Nat} {k : IntKind}, ks[i]? = some k → (ks ++ js)[i]? = some k := fun {i k} hk => by
  rw [List.getElem?_append_left (List.getElem?_eq_some_iff.1 hk).1]; exact hk
 have xL : ∀ {i : Nat} {x : Int}, xs[i]? = some x → (xs ++ ys)[i]? = some x := fun {i x} hk => by
  rw [List.getElem?_append_left (List.getElem?_eq_some_iff.1 hk).1]; exact hk
 have kR : ∀ {i : Nat} {k : IntKind}, js[i]? = some k → (ks ++ js)[ks.length + i]? = some k := fun {i k} hk => by
  rw [List.getElem?_append_right (by omega), Nat.add_sub_cancel_left]; exact hk
 have xR : ∀ {i : Nat} {x : Int}, ys[i]? = some x → (xs ++ ys)[ks.length + i]? = some x := fun {i x} hk => by
  rw [List.getElem?_append_right (by omega), hl, Nat.add_sub_cancel_left]; exact hk
 refine ⟨⟨⟨by omega, fun i k x hk hx => h2 i k x (kL hk) (xL hx)⟩, fun i k x hk hx => h3 i k x (kL hk) (xL hx)⟩, ⟨⟨by omega, fun i k x hk hx => h2 _ k x (kR hk) (xR hx)⟩, fun i k x hk hx => ?_⟩⟩
 have := h3 _ k x (kR hk) (xR hx)
 rwa [← Nat.add_assoc] at this
def dK : List IntKind := List.replicate 8 .u64 ++ (List.replicate 128 .u8 ++ [.i64, .u64, .i64])
theorem Dg.of_mem {w : World} {B o : Nat} {h x : List Int} {nx L : Nat} (hl : h.length = 8) (hx : x.length = 128) (hm : MemI true w (B, o) dK (h ++ (x ++ [(nx : Int), (L : Int), 64]))) : Dg w B o h x nx L := by
 obtain ⟨h1, h2⟩ := hm.app (by simp [hl])
 obtain ⟨h3, h4⟩ := h2.app (by simp [hx])
 have e8 : (List.replicate 8 IntKind.u64).length = 8 := List.length_replicate
 have e128 : (List.replicate 128 IntKind.u8).length = 128 := List.length_replicate
 rw [e8] at h3
 rw [e8, e128] at h4
 exact ⟨h1, h3, h4.2 0 .i64 _ rfl rfl, h4.2 1 .u64 _ rfl rfl, h4.2 2 .i64 _ rfl rfl⟩
theorem raw_new : i_sha512_New.raw C_sha512_New 0 [] = H0 ++ (List.replicate 128 0 ++ [0, 0, 64]) := by kernel_rfl
structure NewP (GC : Nat → Nat → Option Value) (w : World) (e : Ending) (w' : World) : Prop where
 ret : ∃ B o, e = .returned (.pointer (some ⟨B, o, none⟩)) ∧ w.heap.size ≤ B ∧ Dig w' B o []
 frm : Frm w w' (fun _ _ => False)
 gw : GW GC w'
theorem new_any {GB : Nat} {GC : Nat → Nat → Option Value} {ad : Nat → Nat × Nat} (hG : GOk GB GC ad) {w : World} (hgw : GW GC w) (hGB : GB ≤ w.heap.size) : Calls Tryz.prog 92 #[] w (NewP GC w) := by
 have h := ok_sha512_New hG true [] [] [] w hgw hGB trivial trivial (fun h => (by cases h)) rfl
 refine h.mono fun e w' ⟨fb, vs, he, hp⟩ => ?_
 simp only [FE.sel] at hp
 have hr := hp.ret
 match vs, hr with
 | [v], hr =>
 obtain ⟨b, hb, hv⟩ := hr.1
 subst hv
 have hm := hp.fresh 0 (dK, fun a => fixL 139 (i_sha512_New.raw C_sha512_New 0 a)) b rfl hb
 have e1 : fixL 139 (i_sha512_New.raw C_sha512_New 0 []) = H0 ++ (List.replicate 128 0 ++ [0, 0, 64]) := by
  rw [raw_new]; exact fixL_id rfl
 have hm' : MemI true w' (b.1, b.2) dK (H0 ++ (List.replicate 128 0 ++ [0, 0, 64])) := by rw [← e1]; exact hm
 refine ⟨⟨b.1, b.2, he, hp.fr b (lmG hb), _, Dg.of_mem (nx := 0) (L := 0) rfl (by simp) hm', rfl⟩, hp.frm.mono fun b' o' _ hs => ?_, hp.gw⟩
 obtain ⟨p, hp', _⟩ := hs
 cases hp'
end Go.Proofs.YtloibefkijfdlaaGreatDoor

namespace Go.Proofs.YtloibefkijfdlaaGreatDoor
open Go
section
variable {ρ : Operand → Value} {d : Option Tmp} {x y : Operand} {ty : TypeId} {pos : String} {af : Array Edge} {w : World} {b o : Nat}
theorem e_remu {i j : Nat} (h : ρ x = .int .u64 i) (hy : ρ y = .int .u64 j) (hj : 0 < j) : (execOp ρ ⟨d, .binOp .rem 50 x y 50, ty, pos, af, none⟩).run Tryz.prog w = .ok (.value (.int .u64 ((i % j : Nat) : Int))) w := by
 simp [execOp, go_sem, h, hy]
 rw [if_neg (by omega)]
 rfl
theorem e_lssu {i j : Int} (h : ρ x = .int .u64 i) (hy : ρ y = .int .u64 j) : (execOp ρ ⟨d, .binOp .lss 50 x y 50, ty, pos, af, none⟩).run Tryz.prog w = .ok (.value (.bool (decide (i < j)))) w := by
 simp [execOp, go_sem, h, hy]
theorem e_subu {i j : Int} (h : ρ x = .int .u64 i) (hy : ρ y = .int .u64 j) : (execOp ρ ⟨d, .binOp .sub 50 x y 50, ty, pos, af, none⟩).run Tryz.prog w = .ok (.value (.int .u64 (IntKind.u64.wrap (i - j)))) w := by
 simp [execOp, go_sem, h, hy]
theorem e_shl3 {i : Int} (h : ρ x = .int .u64 i) (hy : ρ y = .int .u64 3) : (execOp ρ ⟨d, .binOp .shl 50 x y 131, ty, pos, af, none⟩).run Tryz.prog w = .ok (.value (.int .u64 (IntKind.u64.wrap (i * 8)))) w := by
 simp [execOp, go_sem, h, hy]
theorem e_neqi {i j : Int} (h : ρ x = .int .i64 i) (hy : ρ y = .int .i64 j) : (execOp ρ ⟨d, .binOp .neq 3 x y 3, ty, pos, af, none⟩).run Tryz.prog w = .ok (.value (.bool (i != j))) w := by
 simp [execOp, go_sem, h, hy]
theorem z144 : Tryz.zeroCells199 = Array.replicate 144 (.int .u8 0) := by kernel_rfl
theorem z139 : Tryz.zeroCells135 = (intsV dK (List.replicate 139 0)).toArray := by kernel_rfl
theorem e_al144 : (execOp ρ ⟨d, .alloc 199, ty, pos, af, none⟩).run Tryz.prog w = .ok (.value (.pointer (some ⟨w.heap.size, 0, none⟩))) (w.alloc (.cells (Array.replicate 144 (.int .u8 0)) 199)) := by
 simp [execOp, go_sem, z144]
theorem e_al64 : (execOp ρ ⟨d, .alloc 137, ty, pos, af, none⟩).run Tryz.prog w = .ok (.value (.pointer (some ⟨w.heap.size, 0, none⟩))) (w.alloc (.cells (Array.replicate 64 (.int .u8 0)) 137)) := by
 simp [execOp, go_sem]
 rfl
theorem e_alD : (execOp ρ ⟨d, .alloc 135, ty, pos, af, none⟩).run Tryz.prog w = .ok (.value (.pointer (some ⟨w.heap.size, 0, none⟩))) (w.alloc (.cells (intsV dK (List.replicate 139 0)).toArray 135)) := by
 simp [execOp, go_sem, z139]
theorem e_ix0 (h : ρ x = .pointer (some ⟨b, o, none⟩)) (hy : ρ y = .int .i64 0) : (execOp ρ ⟨d, .indexAddr 199 x y, ty, pos, af, none⟩).run Tryz.prog w = .ok (.value (.pointer (some ⟨b, o, none⟩))) w := by
 simp [execOp, go_sem, h, hy]
theorem e_ixh {k : Nat} (h : ρ x = .pointer (some ⟨b, o, none⟩)) (hy : ρ y = .int .i64 k) (hk : k < 8) : (execOp ρ ⟨d, .indexAddr 51 x y, ty, pos, af, none⟩).run Tryz.prog w = .ok (.value (.pointer (some ⟨b, o + k, none⟩))) w := by
 simp [execOp, go_sem, h, hy]
 intro h; omega
theorem e_ldA {t : TypeId} {cs : List Value} (ha : ∀ w, (isAgg t).run Tryz.prog w = .ok true w) (hz : ∀ w, (sizeOf t).run Tryz.prog w = .ok cs.length w) (h : ρ x = .pointer (some ⟨b, o, none⟩)) (hc : ∀ i v, cs[i]? = some v → w.cell? ⟨b, o + i, none⟩ = some v) :
  (execOp ρ ⟨d, .load t x, ty, pos, af, none⟩).run Tryz.prog w = .ok (.value (.agg cs.toArray)) w := by
 have hl := run_loadCells_list (P := Tryz.prog) w ⟨b, o, none⟩ cs (fun j u hu => by rw [addr_add]; exact hc j u hu)
 simp only [execOp, h, Instr.loadAt, Instr.sureAddr, loadVar, Sem.run_bind, Sem.run_pure, Result.andThen_ok, ha, if_true, hz, hl]
theorem setCells_eq (b : Nat) : ∀ (vs : List Value) (w : World) (o : Nat), setCells w b o vs = w.setCells b o vs
 | [], _, _ => rfl
 | _v :: vs, _w, o => setCells_eq b vs _ (o + 1)
theorem e_stA {t : TypeId} {cs : List Value} (hz : ∀ w, (sizeOf t).run Tryz.prog w = .ok cs.length w) (h : ρ x = .pointer (some ⟨b, o, none⟩)) (hy : ρ y = .agg cs.toArray) (h1 : ∀ v ∈ cs, v.oneCell' = true) (hc : ∀ j, j < cs.length → ∃ u, HasC true w b (o + j) u) :
  (execOp ρ ⟨d, .store t x y, ty, pos, af, none⟩).run Tryz.prog w = .ok .skip (w.setCells b o cs) := by
 have hst := run_storeCells' (P := Tryz.prog) b o cs 0 w h1 (by simpa using hc)
 rw [Nat.add_zero, setCells_eq] at hst
 have hcs : (Value.agg cs.toArray).cells.size = cs.length := by simp [Value.cells]
 simp only [execOp, h, hy, Instr.storeAt, Instr.sureAddr, storeVar, Sem.run_bind, Sem.run_pure, Result.andThen_ok, hz, hcs, ne_eq, not_true, if_false]
 have hcl : (Value.agg cs.toArray).cells.toList = cs := by simp [Value.cells]
 rw [hcl, hst]; rfl
end
end Go.Proofs.YtloibefkijfdlaaGreatDoor

namespace Go.Proofs.YtloibefkijfdlaaGreatDoor
open Go
def be8 (v : Int) : List Int := [56, 48, 40, 32, 24, 16, 8, 0].map fun k => IntKind.u8.wrap (o64 .shr v k)
def tl8 (n : Nat) (old : List Int) : List Int := (List.range (n - 8)).map fun i => old.getD (i + 8) 0
theorem raw_be0 {old : List Int} {v : Int} : i_sha512_bePutUint64.raw C_sha512_bePutUint64 0 [old, [v]] = be8 v ++ tl8 64 old := by kernel_rfl
theorem raw_be1 {old : List Int} {v : Int} : i_sha512_bePutUint64_v1.raw C_sha512_bePutUint64_v1 0 [old, [v]] = be8 v ++ tl8 56 old := by kernel_rfl
theorem raw_be2 {old : List Int} {v : Int} : i_sha512_bePutUint64_v2.raw C_sha512_bePutUint64_v2 0 [old, [v]] = be8 v ++ tl8 48 old := by kernel_rfl
theorem raw_be3 {old : List Int} {v : Int} : i_sha512_bePutUint64_v3.raw C_sha512_bePutUint64_v3 0 [old, [v]] = be8 v ++ tl8 40 old := by kernel_rfl
theorem raw_be4 {old : List Int} {v : Int} : i_sha512_bePutUint64_v4.raw C_sha512_bePutUint64_v4 0 [old, [v]] = be8 v ++ tl8 32 old := by kernel_rfl
theorem raw_be5 {old : List Int} {v : Int} : i_sha512_bePutUint64_v5.raw C_sha512_bePutUint64_v5 0 [old, [v]] = be8 v ++ tl8 24 old := by kernel_rfl
theorem raw_be6 {old : List Int} {v : Int} : i_sha512_bePutUint64_v6.raw C_sha512_bePutUint64_v6 0 [old, [v]] = be8 v ++ tl8 16 old := by kernel_rfl
theorem raw_be7 {old : List Int} {v : Int} : i_sha512_bePutUint64_v7.raw C_sha512_bePutUint64_v7 0 [old, [v]] = be8 v ++ tl8 8 old := by kernel_rfl
structure PutP (GC : Nat → Nat → Option Value) (b o : Nat) (v : Int) (w : World) (e : Ending) (w' : World) : Prop where
 ret : e = .returned (.tuple #[])
 mem : MemI true w' (b, o) (List.replicate 8 .u8) (be8 v)
 frm : Frm w w' (fun b' i => b' = b ∧ o ≤ i ∧ i < o + 8)
 gw : GW GC w'
theorem tl8_len {n : Nat} {old : List Int} : (tl8 n old).length = n - 8 := by simp [tl8]
theorem be8_len (v : Int) : (be8 v).length = 8 := rfl
theorem put_frm {w w' : World} {b o n : Nat} {old : List Int} {v : Int} (hf : Frm w w' (fun b' i => b' = b ∧ o ≤ i ∧ i < o + n)) (h0 : MemI true w (b, o) (List.replicate n .u8) old) (h1 : MemI true w' (b, o) (List.replicate n .u8) (be8 v ++ tl8 n old)) (h8 : 8 ≤ n) : Frm w w' (fun b' i => b' = b ∧ o ≤ i ∧ i < o + 8) := by
 refine ⟨hf.1, fun b' x hx => ?_, hf.2.2⟩
 obtain ⟨y, hy, hb⟩ := hf.2.1 b' x hx
 refine ⟨y, hy, ?_⟩
 rcases hb with rfl | ⟨c, c', e, f, rfl, rfl, h2, h3⟩
 ·exact .inl rfl
 ·refine .inr ⟨c, c', e, f, rfl, rfl, h2, fun i hi => ?_⟩
  by_cases hin : b' = b ∧ o ≤ i ∧ i < o + n
  ·obtain ⟨rfl, hi1, hi2⟩ := hin
   have hi8 : o + 8 ≤ i := by
    rcases Nat.lt_or_ge i (o + 8) with h | h
    ·exact absurd ⟨rfl, hi1, h⟩ hi
    ·exact h
   obtain ⟨a1, -, -, -⟩ := h0.at8 (i := i - o) (by omega)
   obtain ⟨a2, -, -, -⟩ := h1.at8 (i := i - o) (by omega)
   rw [show o + (i - o) = i by omega] at a1 a2
   have e1 : (be8 v ++ tl8 n old).getD (i - o) 0 = old.getD (i - o) 0 := by
    simp only [List.getD]
    rw [List.getElem?_append_right (by rw [be8_len]; omega), be8_len]
    have hlt : i - o - 8 < n - 8 := by omega
    simp [tl8, hlt, List.getD, show i - o - 8 + 8 = i - o by omega]
   rw [e1] at a2
   have c1 := a1.1
   have c2 := a2.1
   simp only [World.cell?, hx] at c1
   simp only [World.cell?, hy] at c2
   have := c2.trans c1.symm
   simpa using this
  ·exact h3 i hin
section
variable {GB : Nat} {GC : Nat → Nat → Option Value} {ad : Nat → Nat × Nat}
theorem put_gen {f n : Nat} {i : FnI} {C : Cx} (hn : 8 ≤ n) (hok : FEOk Tryz.prog GB GC f (.one (i.sum C))) (hp : i.s0.params = [.sl (List.replicate n .u8) 1 true, .int .u64]) (hout : i.s0.outs = [(0, List.replicate n .u8, z1)]) (hret : i.s0.ret = []) (_hfr : i.s0.fresh = []) (hhp : (i.sum C).hp = false) (hraw : ∀ old v, i.raw C 0 [old, [v]] = be8 v ++ tl8 n old)
  {w : World} {b o c : Nat} {old : List Int} {v : Int} (hgw : GW GC w) (hGB : GB ≤ w.heap.size) (hB : GB ≤ b) (hm : MemI true w (b, o) (List.replicate n .u8) old) (hc : n ≤ c) (hv : inR .u64 v) : Calls Tryz.prog f #[.slice (some ⟨b, o, none⟩) n c, .int .u64 v] w (PutP GC b o v w) := by
 have hP : PMs GB w (i.sum C).params [.slice (some ⟨b, o, none⟩) n c, .int .u64 v] [old, [v]] [(b, o), (0, 0)] := by
  show PMs GB w i.s0.params _ _ _
  rw [hp]
  exact ⟨⟨c, by rw [List.length_replicate], by rw [List.length_replicate]; exact hc, hm, fun _ => hB⟩, ⟨v, rfl, rfl, hv⟩, trivial⟩
 have hS : PSeps (i.sum C).params [(b, o), (0, 0)] := by
  show PSeps i.s0.params _
  rw [hp]
  refine ⟨fun x hx => ?_, fun x hx => (by cases hx), trivial⟩
  rw [List.zip_cons_cons, List.zip_nil_left, List.mem_singleton] at hx
  subst hx
  simp [PSep, PSh.reg]
 refine (hok true _ _ _ w hgw hGB hP hS (fun h => by rw [show (FE.one (i.sum C)).sel true = i.sum C from rfl, hhp] at h; cases h) rfl).mono fun e w' ⟨fb, vs, he, hq⟩ => ?_
 simp only [FE.sel] at hq
 have eo : (i.sum C).outs = [(0, List.replicate n .u8, fun a => fixL (List.replicate n IntKind.u8).length (i.raw C 0 a))] := by
  show withO (i.raw C) 0 i.s0.outs = _
  rw [hout]; rfl
 have er : (i.sum C).ret = [] := by
  show withR (i.raw C) (i.s0.outs.length + i.s0.fresh.length) i.s0.ret = _
  rw [hret]; rfl
 have hr := hq.ret
 rw [er] at hr
 have hvs : vs = [] := by
  match vs, hr with
  | [], _ => rfl
 subst hvs
 have hmem := hq.outs
 rw [eo] at hmem
 have hm' := hmem _ lmS
 have hlen : (be8 v ++ tl8 n old).length = n := by rw [List.length_append, be8_len, tl8_len]; omega
 have e1 : fixL (List.replicate n IntKind.u8).length (i.raw C 0 [old, [v]]) = be8 v ++ tl8 n old := by
  rw [hraw, List.length_replicate]; exact fixL_id hlen
 have hm2 : MemI true w' (b, o) (List.replicate n .u8) (be8 v ++ tl8 n old) := by rw [← e1]; exact hm'
 have hf := hq.frm
 have hf2 : Frm w w' (fun b' j => b' = b ∧ o ≤ j ∧ j < o + n) := hf.mono fun b' j _ hS => by
  obtain ⟨p, hp', h1, h2, h3⟩ := hS
  rw [eo, List.mem_singleton] at hp'
  subst hp'
  refine ⟨h1, h2, ?_⟩
  have : (List.replicate n IntKind.u8).length = n := List.length_replicate
  rw [← this]; exact h3
 refine ⟨he, ?_, put_frm hf2 hm hm2 hn, hq.gw⟩
 have := (hm2.take (n := 8) hn)
 rwa [List.take_left' (be8_len v)] at this
end
end Go.Proofs.YtloibefkijfdlaaGreatDoor

namespace Go.Proofs.YtloibefkijfdlaaGreatDoor
open Go
section
variable {GB : Nat} {GC : Nat → Nat → Option Value} {ad : Nat → Nat × Nat} (hG : GOk GB GC ad) {w : World} {b o c : Nat} {old : List Int} {v : Int} (hgw : GW GC w) (hGB : GB ≤ w.heap.size) (hB : GB ≤ b) (hv : inR .u64 v)
include hG hgw hGB hB hv
theorem put0 (hm : MemI true w (b, o) (List.replicate 64 .u8) old) (hc : 64 ≤ c) : Calls Tryz.prog 155 #[.slice (some ⟨b, o, none⟩) 64 c, .int .u64 v] w (PutP GC b o v w) := put_gen (by omega) (ok_sha512_bePutUint64 hG) rfl rfl rfl rfl rfl (fun _ _ => raw_be0) hgw hGB hB hm hc hv
theorem put1 (hm : MemI true w (b, o) (List.replicate 56 .u8) old) (hc : 56 ≤ c) : Calls Tryz.prog 155 #[.slice (some ⟨b, o, none⟩) 56 c, .int .u64 v] w (PutP GC b o v w) := put_gen (by omega) (ok_sha512_bePutUint64_v1 hG) rfl rfl rfl rfl rfl (fun _ _ => raw_be1) hgw hGB hB hm hc hv
theorem put2 (hm : MemI true w (b, o) (List.replicate 48 .u8) old) (hc : 48 ≤ c) : Calls Tryz.prog 155 #[.slice (some ⟨b, o, none⟩) 48 c, .int .u64 v] w (PutP GC b o v w) := put_gen (by omega) (ok_sha512_bePutUint64_v2 hG) rfl rfl rfl rfl rfl (fun _ _ => raw_be2) hgw hGB hB hm hc hv
theorem put3 (hm : MemI true w (b, o) (List.replicate 40 .u8) old) (hc : 40 ≤ c) : Calls Tryz.prog 155 #[.slice (some ⟨b, o, none⟩) 40 c, .int .u64 v] w (PutP GC b o v w) := put_gen (by omega) (ok_sha512_bePutUint64_v3 hG) rfl rfl rfl rfl rfl (fun _ _ => raw_be3) hgw hGB hB hm hc hv
theorem put4 (hm : MemI true w (b, o) (List.replicate 32 .u8) old) (hc : 32 ≤ c) : Calls Tryz.prog 155 #[.slice (some ⟨b, o, none⟩) 32 c, .int .u64 v] w (PutP GC b o v w) := put_gen (by omega) (ok_sha512_bePutUint64_v4 hG) rfl rfl rfl rfl rfl (fun _ _ => raw_be4) hgw hGB hB hm hc hv
theorem put5 (hm : MemI true w (b, o) (List.replicate 24 .u8) old) (hc : 24 ≤ c) : Calls Tryz.prog 155 #[.slice (some ⟨b, o, none⟩) 24 c, .int .u64 v] w (PutP GC b o v w) := put_gen (by omega) (ok_sha512_bePutUint64_v5 hG) rfl rfl rfl rfl rfl (fun _ _ => raw_be5) hgw hGB hB hm hc hv
theorem put6 (hm : MemI true w (b, o) (List.replicate 16 .u8) old) (hc : 16 ≤ c) : Calls Tryz.prog 155 #[.slice (some ⟨b, o, none⟩) 16 c, .int .u64 v] w (PutP GC b o v w) := put_gen (by omega) (ok_sha512_bePutUint64_v6 hG) rfl rfl rfl rfl rfl (fun _ _ => raw_be6) hgw hGB hB hm hc hv
theorem put7 (hm : MemI true w (b, o) (List.replicate 8 .u8) old) (hc : 8 ≤ c) : Calls Tryz.prog 155 #[.slice (some ⟨b, o, none⟩) 8 c, .int .u64 v] w (PutP GC b o v w) := put_gen (by omega) (ok_sha512_bePutUint64_v7 hG) rfl rfl rfl rfl rfl (fun _ _ => raw_be7) hgw hGB hB hm hc hv
end
def padT (L : Nat) : Nat := if L % 128 < 112 then 112 - L % 128 else 240 - L % 128
def pad (L : Nat) : List Int := 128 :: (List.replicate (padT L + 7) 0 ++ be8 ((L * 8 : Nat) : Int))
def out8 (h : List Int) : List Int := h.flatMap be8
def sha (m : List Int) : List Int := out8 (hst (m ++ pad m.length))
theorem pad_len (L : Nat) : (pad L).length = padT L + 16 := by
 unfold pad
 rw [List.length_cons, List.length_append, List.length_replicate, be8_len]
theorem padT_le (L : Nat) : 1 ≤ padT L ∧ padT L ≤ 128 ∧ (L + (padT L + 16)) % 128 = 0 := by
 unfold padT
 split <;> omega
theorem sha_mod (m : List Int) : (m ++ pad m.length).length % 128 = 0 := by
 rw [List.length_append, pad_len]
 exact (padT_le _).2.2
theorem mem_put {w w' : World} {b o n k : Nat} {xs : List Int} {v : Int} (h : MemI true w (b, o) (List.replicate n .u8) xs) (hf : Frm w w' (fun b' i => b' = b ∧ o + k ≤ i ∧ i < o + k + 8)) (hp : MemI true w' (b, o + k) (List.replicate 8 .u8) (be8 v)) (hk : k + 8 ≤ n) : MemI true w' (b, o) (List.replicate n .u8) (lay xs (be8 v) k) := by
 have hl := h.len8
 have h8 := be8_len v
 refine mem8 (by rw [lay_len (by omega)]; exact hl) (fun z hz => ?_) fun i hi => ?_
 ·simp only [lay, List.mem_append] at hz
  rcases hz with hz | hz | hz
  ·exact h.rng8 z (List.mem_of_mem_take hz)
  ·exact hp.rng8 z hz
  ·exact h.rng8 z (List.mem_of_mem_drop hz)
 ·rw [lay_get (by omega)]
  split
  ·have := (hp.at8 (i := i - k) (by omega)).1
   rwa [show o + k + (i - k) = o + i by omega] at this
  ·exact hf.hasC (h.at8 hi).1 (fun hh => by omega)
theorem mem_sub {f : Bool} {w : World} {b o n k m : Nat} {xs : List Int} (h : MemI f w (b, o) (List.replicate n .u8) xs) (hk : k + m ≤ n) : MemI f w (b, o + k) (List.replicate m .u8) ((xs.drop k).take m) := by
 have h1 := h.drop (n := k) (by omega)
 exact h1.take (n := m) (by omega)
theorem lay_pad (L : Nat) : (lay (lay (List.replicate 144 0) [128] 0) (be8 ((L * 8 : Nat) : Int)) (padT L + 8)).take (padT L + 16) = pad L := by
 obtain ⟨h1, h2, -⟩ := padT_le L
 have e1 : lay (List.replicate 144 (0 : Int)) [128] 0 = 128 :: List.replicate 143 0 := rfl
 rw [e1]
 unfold lay pad
 have h8 := be8_len ((L * 8 : Nat) : Int)
 have e2 : ((128 : Int) :: List.replicate 143 0).take (padT L + 8) = 128 :: List.replicate (padT L + 7) 0 := by
  rw [show padT L + 8 = (padT L + 7) + 1 by omega, List.take_succ_cons, List.take_replicate, show min (padT L + 7) 143 = padT L + 7 by omega]
 rw [e2, ← List.append_assoc]
 rw [List.take_left' (by rw [List.length_append, List.length_cons, List.length_replicate, h8])]
 rfl
end Go.Proofs.YtloibefkijfdlaaGreatDoor
