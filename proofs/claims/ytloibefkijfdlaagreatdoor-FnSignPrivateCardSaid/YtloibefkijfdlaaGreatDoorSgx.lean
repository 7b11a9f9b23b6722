/- signWithDom: the pieces, as steps of a walk. Contracts in plain words: a new scalar, 64 bytes as a scalar, multiples of the base point, a point's bytes. Walking by hand: operations of signing. signWithDom: the walk, for any message. signWithDom: the walk, for any message. (further) -/
import Derived.Test.YtloibefkijfdlaaGreatDoorSg1
import Derived.Test.YtloibefkijfdlaaGreatDoorWc
namespace Go.Proofs.YtloibefkijfdlaaGreatDoor
open Go
def ob1 (f : Nat) (t : Tree) : Bool := match lin t with
 | some (_, [.pre g [.vec 1]], _, _) => Nat.beq g f && linOk 2 t
 | _ => false
theorem ob1_ok {T : Tb} {f : Nat} {t : Tree} {x y : List Int} (h : ob1 f t = true) (hp : Pay T f [y]) : evOb T t (insE [x, y]) := by
 unfold ob1 at h
 split at h
 ·rename_i ds g e st hl
  simp only [baE] at h
  have e1 := nbE h.1
  subst e1
  obtain ⟨k1, -, -, -, k5⟩ := lin_ok (T := T) (ρ := insE [x, y]) h.2 hl
  refine k5 fun q hq => ?_
  rw [List.mem_singleton] at hq
  subst hq
  obtain ⟨s, hs, hpre⟩ := hp.pre
  simp only [Obl.den, hs]
  have : ([Arg.vec 1].map (·.den (upds T (insE [x, y]) ds))) = [y] := by
   show [upds T (insE [x, y]) ds 1] = [y]
   rw [k1 1 (by omega)]; rfl
  rw [this]; exact hpre
 ·cases h
theorem t_ob28 : ob1 104 (g28.i.tree C28) = true := by kernel_rfl
theorem t_ob29 : ob1 107 (g29.i.tree C29) = true := by kernel_rfl
section
variable {GB : Nat} {GC : Nat → Nat → Option Value} {ad : Nat → Nat × Nat} (hG : GOk GB GC ad)
include hG
theorem C27_ok : CxOk Tryz.prog C27 GB GC := mkC_ok hG (.cons (k := 98) rfl (ok_edwards25519_NewScalar hG) Tryz.call98 (FnI.len _ _) (.cons (k := 106) rfl (ok_edwards25519_Scalar_MultiplyAdd hG) Tryz.call106 (FnI.len _ _) .nil)) IlOk.nil
theorem C28_ok : CxOk Tryz.prog C28 GB GC := mkC_ok hG (.cons (k := 104) rfl (ok_edwards25519_Point_Bytes hG) Tryz.call104 (FnI.lenP _ _) .nil) IlOk.nil
theorem C29_ok : CxOk Tryz.prog C29 GB GC := mkC_ok hG (.cons (k := 107) rfl (ok_edwards25519_Scalar_Bytes hG) Tryz.call107 (FnI.lenP _ _) .nil) IlOk.nil
omit hG in
theorem covN {C : Cx} (h1 : C.loops = []) (h2 : C.inl = []) (c : Code) (E : En) (_ : E.P = Tryz.prog) (h : E.C = C) (_ : E.GB = GB) (_ : E.GC = GC) : Cov E c ∧ ∀ f j, lk f C.inl = some j → Cov E j.c :=
 ⟨Cov.of_nil (by rw [h]; exact h1) _, fun f j hj => by rw [h2] at hj; cases hj⟩
end
def su0 : List Int := [0, 0, 0, 0]
theorem raw_nsc : i_edwards25519_NewScalar.raw C_edwards25519_NewScalar 0 [] = [0, 0, 0, 0] := by kernel_rfl
theorem pr_nsc : s_edwards25519_NewScalar.pr 0 = .l fun a => fixL 4 (i_edwards25519_NewScalar.raw C_edwards25519_NewScalar 0 a) := rfl
theorem lk_27n : lk 98 C27.T = some (.one s_edwards25519_NewScalar) := by kernel_rfl
theorem lk_28 : lk 104 C28.T = some (.one s_edwards25519_Point_Bytes) := by kernel_rfl
theorem gv_nsc : gv C27.T 98 0 [] = su0 := by
 rw [gv_one lk_27n, pr_nsc]
 exact (congrArg (fixL 4) raw_nsc).trans rfl
noncomputable def maF (k s r : List Int) : List Int := gv C27.T 106 0 [su0, k, s, r]
noncomputable def pbF (p : List Int) : List Int := gv C28.T 104 0 [p]
noncomputable def sbF (s : List Int) : List Int := gv C29.T 107 0 [s]
theorem cp_all {l : List Int} {n : Nat} (h : l.length = n) : cp l 0 n = l := by
 subst h
 unfold cp
 refine List.ext_getElem (by simp) fun i h1 h2 => ?_
 simp [List.getD, h2]
theorem cp_len (l : List Int) (o n : Nat) : (cp l o n).length = n := by simp [cp]
theorem cp_app {l r : List Int} {n : Nat} (h : l.length = n) : cp (l ++ r) 0 n = l := by
 subst h
 unfold cp
 refine List.ext_getElem (by simp) fun i h1 h2 => ?_
 simp [List.getD, List.getElem?_append_left h2, h2]
theorem PMs_one {GB : Nat} {w : World} {ks : List IntKind} {g : Nat} {v : Value} {xs : List Int} : ∀ {bs : List (Nat × Nat)}, PMs GB w [.mem ks g true] [v] [xs] bs → ∃ b : Nat × Nat, v = .pointer (some ⟨b.1, b.2, none⟩) ∧ MemI true w (b.1, b.2) ks xs ∧ GB ≤ b.1
 | [b], h => ⟨b, h.1.1, h.1.2.1, h.1.2.2 rfl⟩
 | [], h => h.elim
 | _ :: _ :: _, h => h.2.elim
theorem PMs_hd {GB : Nat} {w : World} {ks : List IntKind} {g : Nat} {v : Value} {vs : List Value} {ps : List PSh} {b : Nat × Nat} {bs : List (Nat × Nat)} : ∀ {q : List (List Int)}, PMs GB w (.sl ks g true :: ps) (v :: vs) q (b :: bs) → MemI true w b ks (q.getD 0 [])
 | x :: q, h => by
  obtain ⟨c, -, -, h1, -⟩ := h.1
  exact h1
 | [], h => h.elim
section
variable {GB : Nat} {GC : Nat → Nat → Option Value} {ad : Nat → Nat × Nat}
theorem fr_keep {a a' : Act} {n : Nat} {f : Nat → Value} (_F : Fr a n f) (hs : a'.tmps.size = n) (hd : a'.defers = []) : Fr a' n (fun t => a'.tmps.getD t undef) := ⟨hs, hd, fun _ => rfl⟩
theorem nt_S : Tryz.f91.ntmps = 124 := by kernel_rfl
theorem s27_wp (hG : GOk GB GC ad) {a : Act} {w : World} {f : Nat → Value} {bk ok bp op br or_ : Nat} {k pk r : List Int} (F : Fr a 124 f) (hgw : GW GC w) (hGB : GB ≤ w.heap.size) (h18 : f 18 = .pointer (some ⟨bk, ok, none⟩)) (h1 : f 1 = .pointer (some ⟨bp, op, none⟩)) (h13 : f 13 = .pointer (some ⟨br, or_, none⟩)) (mk : MemI false w (bk, ok) U4 k) (mp : MemI false w (bp, op) kPK pk) (mr : MemI false w (br, or_) U4 r) :
  (rS 27).wp Tryz.prog (fun e a' w' => e = .normal ∧ ∃ f' b o, Fr a' 124 f' ∧ f' 19 = .pointer (some ⟨b, o, none⟩) ∧ MemI true w' (b, o) U4 (fixL 4 (maF k (cp pk 64 4) r)) ∧ GB ≤ b ∧ Frm w w' (fun _ _ => False) ∧ GW GC w' ∧ f' 0 = f 0 ∧ f' 15 = f 15) a w := by
 have c := chk_g27
 simp only [baE] at c
 have hP : PMs GB w g27.i.s0.params (g27.i.ps.map fun t => a.tmps.getD t undef) [k, pk, r] [(bk, ok), (bp, op), (br, or_)] := ⟨⟨(F.tm 18).trans h18, mk, fun h => (by cases h)⟩, ⟨(F.tm 1).trans h1, mp, fun h => (by cases h)⟩, ⟨(F.tm 13).trans h13, mr, fun h => (by cases h)⟩, trivial⟩
 have hS : PSeps g27.i.s0.params [(bk, ok), (bp, op), (br, or_)] := ⟨fun x hx => by
   have := (List.of_mem_zip hx).1
   simp only [List.mem_cons, List.not_mem_nil, or_false] at this
   unfold PSep
   rcases this with h | h <;> (rw [h]; simp [PSh.reg]), fun x hx => by
   have := (List.of_mem_zip hx).1
   simp only [List.mem_cons, List.not_mem_nil, or_false] at this
   unfold PSep
   rw [this]; simp [PSh.reg], fun x hx => (by cases hx), trivial⟩
 have hr := sg_round (g := g27) (C27_ok hG) c.1 (gls_of hG (.inl rfl)).1 (gls_of hG (.inl rfl)).2 (covN (GB := GB) (GC := GC) rfl rfl _) hgw hGB hP hS (F.sz.trans nt_S.symm) F.df (cleanT_ok c.2)
 refine wp_mono hr ?_
 rintro e a' w' ⟨q, q2, bs2, hs, rfl, hx, -, hf, n1, n2, n3, n4, n5⟩
 have hv := @v_27 C27.T k pk r
 rw [stepT_eq g27 C27 [k, pk, r]] at hs
 rw [hs] at hv
 have hv := Option.some.inj hv
 subst hv
 have hx' : PMs GB w' [.mem U4 1 true] ([19].map fun t => a'.tmps.getD t undef) [gv C27.T 106 0 [gv C27.T 98 0 [], k, cp pk 64 4, r]] bs2 := hx
 obtain ⟨b, e1, e2, e3⟩ := PMs_one hx'
 have ez := gv_nsc
 rw [ez] at e2
 have hfix : fixL 4 (maF k (cp pk 64 4) r) = maF k (cp pk 64 4) r := fixL_id e2.1.1
 refine ⟨rfl, _, b.1, b.2, fr_keep F (n1.trans nt_S) n2, e1, by rw [hfix]; exact e2, e3, hf.mono fun b o _ hS => ?_, n5, ?_, ?_⟩
 ·obtain ⟨p, hp, _⟩ := hS
  cases hp
 ·rw [← F.tm 0]; exact n3 0 (hasN_iff.1 (by kernel_rfl))
 ·rw [← F.tm 15]; exact n3 15 (hasN_iff.1 (by kernel_rfl))
theorem s28_wp (hG : GOk GB GC ad) {a : Act} {w : World} {f : Nat → Value} {bs os c bp op : Nat} {s p : List Int} {P : Ma.Pt} (F : Fr a 124 f) (hgw : GW GC w) (hGB : GB ≤ w.heap.size) (h0 : f 0 = .slice (some ⟨bs, os, none⟩) 64 c) (hc : 64 ≤ c) (h15 : f 15 = .pointer (some ⟨bp, op, none⟩)) (ms : MemI true w (bs, os) (List.replicate 64 .u8) s) (hbs : GB ≤ bs) (mp : MemI false w (bp, op) (List.replicate 20 .u64) p) (hne : bs ≠ bp) (hp : R3 P p) :
  (rS 28).wp Tryz.prog (fun e a' w' => e = .normal ∧ ∃ f', Fr a' 124 f' ∧ MemI true w' (bs, os) (List.replicate 64 .u8) (cp (pbF p) 0 32 ++ cp s 32 32) ∧ Frm w w' (fun b _ => b = bs) ∧ GW GC w' ∧ f' 0 = f 0 ∧ f' 19 = f 19) a w := by
 have hP : PMs GB w g28.i.s0.params (g28.i.ps.map fun t => a.tmps.getD t undef) [s, p] [(bs, os), (bp, op)] := ⟨⟨c, (F.tm 0).trans h0, hc, ms, fun _ => hbs⟩, ⟨(F.tm 15).trans h15, mp, fun h => (by cases h)⟩, trivial⟩
 have hS : PSeps g28.i.s0.params [(bs, os), (bp, op)] := ⟨fun x hx => by
   have hx' : x = (PSh.mem (List.replicate 20 .u64) 0 false, (bp, op)) := List.mem_singleton.1 hx
   subst hx'
   exact fun _ => .inr (.inl hne), fun x hx => (by cases hx), trivial⟩
 have hr := sg_round (g := g28) (C28_ok hG) chk_g28 (gls_of hG (.inl rfl)).1 (gls_of hG (.inl rfl)).2 (covN (GB := GB) (GC := GC) rfl rfl _) hgw hGB hP hS (F.sz.trans nt_S.symm) F.df (ob1_ok t_ob28 (ptb_pay rfl hp))
 refine wp_mono hr ?_
 rintro e a' w' ⟨q, q2, bs2, hs, rfl, -, hm, hf, n1, n2, n3, n4, n5⟩
 have hv := @v_28 C28.T s p
 rw [stepT_eq g28 C28 [s, p]] at hs
 rw [hs] at hv
 have hv := Option.some.inj hv
 refine ⟨rfl, _, fr_keep F (n1.trans nt_S) n2, ?_, hf.mono fun b o _ hS => ?_, n5, ?_, ?_⟩
 ·have hm1 := PMs_hd (ps := g28.i.s0.params.tail) hm
  rw [show q.getD 0 [] = _ from hv] at hm1
  exact hm1
 ·obtain ⟨p', hp', h1, h2, h3⟩ := hS
  have hp2 : p' ∈ [((0 : Nat), List.replicate 64 IntKind.u8, (Go.Proofs.YtloibefkijfdlaaGreatDoor.z1 : PF))] := hp'
  rw [List.mem_singleton] at hp2
  subst hp2
  exact h1
 ·rw [← F.tm 0]; exact n4 0 0 _ rfl (by simp [PSh.reg]) rfl
 ·rw [← F.tm 19]; exact n3 19 (hasN_iff.1 (by kernel_rfl))
theorem s29_wp (hG : GOk GB GC ad) {a : Act} {w : World} {f : Nat → Value} {bs os c bp op : Nat} {s p : List Int} (F : Fr a 124 f) (hgw : GW GC w) (hGB : GB ≤ w.heap.size) (h0 : f 0 = .slice (some ⟨bs, os, none⟩) 64 c) (hc : 64 ≤ c) (h19 : f 19 = .pointer (some ⟨bp, op, none⟩)) (ms : MemI true w (bs, os) (List.replicate 64 .u8) s) (hbs : GB ≤ bs) (mp : MemI false w (bp, op) U4 p) (hne : bs ≠ bp) :
  (rS 29).wp Tryz.prog (fun e a' w' => e = .normal ∧ ∃ f', Fr a' 124 f' ∧ MemI true w' (bs, os) (List.replicate 64 .u8) (cp s 0 32 ++ cp (sbF p) 0 32) ∧ Frm w w' (fun b _ => b = bs) ∧ GW GC w' ∧ f' 0 = f 0) a w := by
 have hP : PMs GB w g29.i.s0.params (g29.i.ps.map fun t => a.tmps.getD t undef) [s, p] [(bs, os), (bp, op)] := ⟨⟨c, (F.tm 0).trans h0, hc, ms, fun _ => hbs⟩, ⟨(F.tm 19).trans h19, mp, fun h => (by cases h)⟩, trivial⟩
 have hS : PSeps g29.i.s0.params [(bs, os), (bp, op)] := ⟨fun x hx => by
   have hx' : x = (PSh.mem U4 0 false, (bp, op)) := List.mem_singleton.1 hx
   subst hx'
   exact fun _ => .inr (.inl hne), fun x hx => (by cases hx), trivial⟩
 have hr := sg_round (g := g29) (C29_ok hG) chk_g29 (gls_of hG (.inl rfl)).1 (gls_of hG (.inl rfl)).2 (covN (GB := GB) (GC := GC) rfl rfl _) hgw hGB hP hS (F.sz.trans nt_S.symm) F.df (ob1_ok t_ob29 (scb_pay rfl _))
 refine wp_mono hr ?_
 rintro e a' w' ⟨q, q2, bs2, hs, rfl, -, hm, hf, n1, n2, n3, n4, n5⟩
 have hv := @v_29 C29.T s p
 rw [stepT_eq g29 C29 [s, p]] at hs
 rw [hs] at hv
 have hv := Option.some.inj hv
 refine ⟨rfl, _, fr_keep F (n1.trans nt_S) n2, ?_, hf.mono fun b o _ hS => ?_, n5, ?_⟩
 ·have hm1 := PMs_hd (ps := g29.i.s0.params.tail) hm
  rw [show q.getD 0 [] = _ from hv] at hm1
  exact hm1
 ·obtain ⟨p', hp', h1, h2, h3⟩ := hS
  have hp2 : p' ∈ [((0 : Nat), List.replicate 64 IntKind.u8, (Go.Proofs.YtloibefkijfdlaaGreatDoor.z1 : PF))] := hp'
  rw [List.mem_singleton] at hp2
  subst hp2
  exact h1
 ·rw [← F.tm 0]; exact n4 0 0 _ rfl (by simp [PSh.reg]) rfl
end
end Go.Proofs.YtloibefkijfdlaaGreatDoor

namespace Go.Proofs.YtloibefkijfdlaaGreatDoor
open Go
theorem pre_one {f : Nat} {s : FSum} {ins : List (List Int)} (h : Pay [(f, .one s)] f ins) : s.pre ins := by
 obtain ⟨s', h1, h2⟩ := h.pre
 have : lk f [(f, FE.one s)] = some (.one s) := by simp [lk]
 rw [this, osE] at h1
 subst h1
 exact h2
theorem lk_me {f : Nat} {s : FSum} : lk f [(f, FE.one s)] = some (.one s) := by simp [lk]
noncomputable def suF (x : List Int) : List Int := gv [(99, .one s_edwards25519_Scalar_SetUniformBytes)] 99 0 [su0, x]
def pt0 : List Int := List.replicate 20 0
noncomputable def bmF (x : List Int) : List Int := gv [(105, .one s_edwards25519_Point_ScalarBaseMult)] 105 0 [pt0, x]
theorem suF_u4 {x : List Int} (h : by8 x) (hl : x.length = 64) : u4 (suF x) := (kw_su lk_me su0 x h hl).2
theorem bmF_r3 {x : List Int} (h : u4 x) : ∃ P, R3 P (bmF x) := (sbm_ok lk_me h).2
theorem rvs_pn {ins : List (List Int)} {v0 v1 : Value} {fb : List (Nat × Nat)} {vs : List Value} (h : RVs ins [v0, v1] fb [.ptrP 0, .nilI] vs) : vs = [v0, .nilIface] := by
 match vs, h with
 | [a, b], h =>
  have h1 : some v0 = some a := h.1
  have h2 : b = .nilIface := h.2.1
  rw [← Option.some.inj h1, h2]
theorem rvs_p {ins : List (List Int)} {v0 v1 : Value} {fb : List (Nat × Nat)} {vs : List Value} (h : RVs ins [v0, v1] fb [.ptrP 0] vs) : vs = [v0] := by
 match vs, h with
 | [a], h =>
  have h1 : some v0 = some a := h.1
  rw [← Option.some.inj h1]
theorem pr_su : s_edwards25519_Scalar_SetUniformBytes.pr 0 = .l fun a => fixL 4 (i_edwards25519_Scalar_SetUniformBytes.raw C_edwards25519_Scalar_SetUniformBytes 0 a) := rfl
theorem psep_mm {ks js : List IntKind} {g g' : Nat} {wr wr' : Bool} {b c : Nat × Nat} (h : b.1 ≠ c.1) : PSep (.mem ks g wr) (.mem js g' wr') b c := fun _ => .inr (.inl h)
theorem pm_bm : s_edwards25519_Point_ScalarBaseMult.params = [.mem (List.replicate 20 .u64) 98 true, .mem (List.replicate 4 .u64) 83 false] := by kernel_rfl
theorem out_bm : s_edwards25519_Point_ScalarBaseMult.outs = [(0, List.replicate 20 .u64, fun a => fixL 20 (i_edwards25519_Point_ScalarBaseMult.raw C_edwards25519_Point_ScalarBaseMult 0 a))] := by kernel_rfl
theorem ret_bm : s_edwards25519_Point_ScalarBaseMult.ret = [.ptrP 0] := by kernel_rfl
theorem pr_bm : s_edwards25519_Point_ScalarBaseMult.pr 0 = .l fun a => fixL 20 (i_edwards25519_Point_ScalarBaseMult.raw C_edwards25519_Point_ScalarBaseMult 0 a) := rfl
theorem pr_pb : s_edwards25519_Point_Bytes.pr 0 = .l fun a => fixL 32 (i_edwards25519_Point_Bytes.raw C_edwards25519_Point_Bytes 0 a) := rfl
theorem pay_bm {x : List Int} (hx : u4 x) : Pay [(105, .one s_edwards25519_Point_ScalarBaseMult)] 105 [pt0, x] := (sbm_ok lk_me hx).1
theorem pre_two {f : Nat} {s : FSum} {a b : List Int} (h : Pay [(f, .one s)] f [a, b]) : s.pre [a, b] := pre_one h
set_option maxRecDepth 100000 in
theorem pre_bm {x : List Int} (hx : u4 x) : s_edwards25519_Point_ScalarBaseMult.pre [pt0, x] := pre_two (pay_bm hx)
structure OutP (GC : Nat → Nat → Option Value) (b o : Nat) (ks : List IntKind) (l : List Int) (v : Value) (w : World) (e : Ending) (w' : World) : Prop where
 ret : e = .returned v
 mem : MemI true w' (b, o) ks l
 frm : Frm w w' (fun b' _ => b' = b)
 gw : GW GC w'
section
variable {GB : Nat} {GC : Nat → Nat → Option Value} {ad : Nat → Nat × Nat} (hG : GOk GB GC ad) {w : World} (hgw : GW GC w) (hGB : GB ≤ w.heap.size)
structure NscP (GC : Nat → Nat → Option Value) (w : World) (e : Ending) (w' : World) : Prop where
 ret : ∃ B o, e = .returned (.pointer (some ⟨B, o, none⟩)) ∧ w.heap.size ≤ B ∧ MemI true w' (B, o) U4 su0
 frm : Frm w w' (fun _ _ => False)
 gw : GW GC w'
include hG hgw hGB
theorem nsc_any : Calls Tryz.prog 98 #[] w (NscP GC w) := by
 have h := ok_edwards25519_NewScalar hG true [] [] [] w hgw hGB trivial trivial (fun h => (by cases h)) rfl
 refine h.mono fun e w' ⟨fb, vs, he, hp⟩ => ?_
 simp only [FE.sel] at hp
 have hr := hp.ret
 match vs, hr with
 | [v], hr =>
 obtain ⟨b, hb, hv⟩ := hr.1
 subst hv
 have hm := hp.fresh 0 (U4, fun a => fixL 4 (i_edwards25519_NewScalar.raw C_edwards25519_NewScalar 0 a)) b rfl hb
 have hm' : MemI true w' (b.1, b.2) U4 su0 := by rw [show su0 = fixL 4 (i_edwards25519_NewScalar.raw C_edwards25519_NewScalar 0 []) from ((congrArg (fixL 4) raw_nsc).trans rfl).symm]; exact hm
 refine ⟨⟨b.1, b.2, he, hp.fr b (lmG hb), hm'⟩, hp.frm.mono fun b' o' _ hs => ?_, hp.gw⟩
 obtain ⟨p, hp', _⟩ := hs
 cases hp'
theorem out_gen {f : Nat} {s : FSum} {ks : List IntKind} {F : PF} {v0 v1 : Value} {p0 p1 : PSh} {x0 x1 : List Int} {b0 b1 : Nat × Nat} {r : List RSh} {rv : List Value} (hok : FEOk Tryz.prog GB GC f (.one s)) (hp : s.params = [p0, p1]) (hout : s.outs = [(0, ks, F)]) (hret : s.ret = r) (h0 : PM GB w p0 v0 x0 b0) (h1 : PM GB w p1 v1 x1 b1) (hsep : PSep p0 p1 b0 b1) (hpre : s.pre [x0, x1])
  (hrv : ∀ fb vs, RVs [x0, x1] [v0, v1] fb r vs → vs = rv) : Calls Tryz.prog f #[v0, v1] w (OutP GC b0.1 b0.2 ks (F [x0, x1]) (wrapV rv) w) := by
 have _ := hG
 have hP : PMs GB w (FE.sel (.one s) true).params [v0, v1] [x0, x1] [b0, b1] := by
  show PMs GB w s.params _ _ _
  rw [hp]; exact ⟨h0, h1, trivial⟩
 have hS : PSeps (FE.sel (.one s) true).params [b0, b1] := by
  show PSeps s.params _
  rw [hp]
  refine ⟨fun x hx => ?_, fun x hx => (by cases hx), trivial⟩
  rw [List.zip_cons_cons, List.zip_nil_left, List.mem_singleton] at hx
  subst hx
  exact hsep
 refine (hok true [v0, v1] [x0, x1] [b0, b1] w hgw hGB hP hS (fun _ => hpre) rfl).mono fun e w' ⟨fb, vs, he, hq⟩ => ?_
 simp only [FE.sel] at hq
 have hr := hq.ret
 rw [hret] at hr
 have hv := hrv fb vs hr
 subst hv
 have hm := hq.outs
 rw [hout] at hm
 refine ⟨he, hm _ lmS, hq.frm.mono fun b i _ hS => ?_, hq.gw⟩
 obtain ⟨p, hp', e1, -, -⟩ := hS
 rw [hout, List.mem_singleton] at hp'
 subst hp'
 exact e1
theorem su_any {bs os bx ox c : Nat} {x : List Int} (ms : MemI true w (bs, os) U4 su0) (hbs : GB ≤ bs) (mx : MemI false w (bx, ox) (List.replicate 64 .u8) x) (hc : 64 ≤ c) (hne : bs ≠ bx) :
  Calls Tryz.prog 99 #[.pointer (some ⟨bs, os, none⟩), .slice (some ⟨bx, ox, none⟩) 64 c] w (OutP GC bs os U4 (suF x) (.tuple #[.pointer (some ⟨bs, os, none⟩), .nilIface]) w) := by
 have h := out_gen hG hgw hGB (rv := [.pointer (some ⟨bs, os, none⟩), .nilIface]) (ok_edwards25519_Scalar_SetUniformBytes hG) rfl rfl rfl (b0 := (bs, os)) (b1 := (bx, ox)) (x0 := su0) (x1 := x) ⟨rfl, ms, fun _ => hbs⟩ ⟨c, rfl, hc, mx, fun h => (by cases h)⟩ (fun _ => .inr (.inl hne)) (pre_one (kw_su lk_me su0 x mx.rng8 mx.len8).1) (fun fb vs h => rvs_pn h)
 have e : suF x = fixL 4 (i_edwards25519_Scalar_SetUniformBytes.raw C_edwards25519_Scalar_SetUniformBytes 0 [su0, x]) := by
  unfold suF
  rw [gv_one lk_me, pr_su]; rfl
 rw [e]
 exact h
set_option maxRecDepth 100000 in
theorem bm_any {bs os bx ox : Nat} {x : List Int} (ms : MemI true w (bs, os) (List.replicate 20 .u64) pt0) (hbs : GB ≤ bs) (mx : MemI false w (bx, ox) U4 x) (hne : bs ≠ bx) (hx : u4 x) :
  Calls Tryz.prog 105 #[.pointer (some ⟨bs, os, none⟩), .pointer (some ⟨bx, ox, none⟩)] w (OutP GC bs os (List.replicate 20 .u64) (bmF x) (.pointer (some ⟨bs, os, none⟩)) w) := by
 have q0 : PM GB w (.mem (List.replicate 20 .u64) 98 true) (.pointer (some ⟨bs, os, none⟩)) pt0 (bs, os) := ⟨rfl, ms, fun _ => hbs⟩
 have q1 : PM GB w (.mem (List.replicate 4 .u64) 83 false) (.pointer (some ⟨bx, ox, none⟩)) x (bx, ox) := ⟨rfl, mx, fun h => (by cases h)⟩
 have h := out_gen hG hgw hGB (rv := [.pointer (some ⟨bs, os, none⟩)]) (ok_edwards25519_Point_ScalarBaseMult hG) pm_bm out_bm ret_bm q0 q1 (psep_mm hne) (pre_bm hx) (fun fb vs h => rvs_p h)
 have e : bmF x = fixL 20 (i_edwards25519_Point_ScalarBaseMult.raw C_edwards25519_Point_ScalarBaseMult 0 [pt0, x]) := by
  unfold bmF
  rw [gv_one lk_me, pr_bm]; rfl
 rw [e]
 exact h
structure PbP (GC : Nat → Nat → Option Value) (l : List Int) (w : World) (e : Ending) (w' : World) : Prop where
 ret : ∃ B o, e = .returned (.slice (some ⟨B, o, none⟩) 32 32) ∧ w.heap.size ≤ B ∧ MemI true w' (B, o) (List.replicate 32 .u8) l
 frm : Frm w w' (fun _ _ => False)
 gw : GW GC w'
theorem pb_any {bp op : Nat} {p : List Int} {P : Ma.Pt} (mp : MemI false w (bp, op) (List.replicate 20 .u64) p) (hp : R3 P p) : Calls Tryz.prog 104 #[.pointer (some ⟨bp, op, none⟩)] w (PbP GC (pbF p) w) := by
 have h := ok_edwards25519_Point_Bytes hG true [.pointer (some ⟨bp, op, none⟩)] [p] [(bp, op)] w hgw hGB ⟨⟨rfl, mp, fun h => (by cases h)⟩, trivial⟩ ⟨fun _ h => (by cases h), trivial⟩ (fun _ => pre_one (ptb_pay lk_me hp)) rfl
 refine h.mono fun e w' ⟨fb, vs, he, hq⟩ => ?_
 simp only [FE.sel] at hq
 have hr := hq.ret
 match vs, hr with
 | [v], hr =>
 obtain ⟨b, hb, hv⟩ := hr.1
 subst hv
 have hm := hq.fresh 0 (List.replicate 32 .u8, fun a => fixL 32 (i_edwards25519_Point_Bytes.raw C_edwards25519_Point_Bytes 0 a)) b rfl hb
 have e1 : pbF p = fixL 32 (i_edwards25519_Point_Bytes.raw C_edwards25519_Point_Bytes 0 [p]) := by
  unfold pbF
  rw [gv_one (s := s_edwards25519_Point_Bytes) lk_28, pr_pb]; rfl
 refine ⟨⟨b.1, b.2, he, hq.fr b (lmG hb), by rw [e1]; exact hm⟩, hq.frm.mono fun b' o' _ hs => ?_, hq.gw⟩
 obtain ⟨p, hp', _⟩ := hs
 cases hp'
end
end Go.Proofs.YtloibefkijfdlaaGreatDoor

namespace Go.Proofs.YtloibefkijfdlaaGreatDoor
open Go
section
variable {ρ : Operand → Value} {d : Option Tmp} {x y : Operand} {ty : TypeId} {pos : String} {af : Array Edge} {w : World} {b o : Nat}
theorem e_neqs {s t : ByteArray} (h : ρ x = .string s) (hy : ρ y = .string t) : (execOp ρ ⟨d, .binOp .neq 9 x y 9, ty, pos, af, none⟩).run Tryz.prog w = .ok (.value (.bool (!(s.toList == t.toList)))) w := by
 simp [execOp, go_sem, h, hy]
theorem e_lens {s : ByteArray} (h : ρ x = .string s) : (execOp ρ ⟨d, .call ⟨.builtin .len, #[x], #[9]⟩, ty, pos, af, none⟩).run Tryz.prog w = .ok (.value (.int .i64 s.size)) w := by
 simp [go_sem, h]
theorem e_cvb {i : Int} (h : ρ x = .int .i64 i) : (execOp ρ ⟨d, .convert 3 5 x, ty, pos, af, none⟩).run Tryz.prog w = .ok (.value (.int .u8 (IntKind.u8.wrap i))) w := by
 simp [execOp, go_sem, h]
theorem e_bs1 {i : Int} (h : ρ x = .int .u8 i) : (execOp ρ ⟨d, .buildSlice 22 1 #[(0, x)], ty, pos, af, none⟩).run Tryz.prog w = .ok (.value (.slice (some ⟨w.heap.size, 0, none⟩) 1 1)) (w.alloc (.cells #[.int .u8 i] 5)) := by
 simp [execOp, go_sem, h]
theorem wr_64 : IntKind.i64.wrap 64 = 64 := by decide
theorem wr_0 : IntKind.i64.wrap 0 = 0 := by decide
theorem by_5 : Tryz.t5.bytes = 1 := by kernel_rfl
theorem e_ms (h : ρ x = .int .i64 0) (hy : ρ y = .int .i64 64) : (execOp ρ ⟨d, .makeSlice 22 x y, ty, pos, af, none⟩).run Tryz.prog w = .ok (.value (.slice (some ⟨w.heap.size, 0, none⟩) 0 64)) (w.alloc (.cells (Array.replicate 64 (.int .u8 0)) 5)) := by
 simp [execOp, go_sem, h, hy, Instr.makeSlice, wr_64, wr_0, by_5]
 rfl
theorem e_ms64 (h : ρ x = .int .i64 64) (hy : ρ y = .int .i64 64) : (execOp ρ ⟨d, .makeSlice 22 x y, ty, pos, af, none⟩).run Tryz.prog w = .ok (.value (.slice (some ⟨w.heap.size, 0, none⟩) 64 64)) (w.alloc (.cells (Array.replicate 64 (.int .u8 0)) 5)) := by
 simp [execOp, go_sem, h, hy, Instr.makeSlice, wr_64, by_5]
 rfl
theorem e_ext {u v : Value} (h : ρ x = .tuple #[u, v]) : (execOp ρ ⟨d, .extract x 0, ty, pos, af, none⟩).run Tryz.prog w = .ok (.value u) w := by
 simp [execOp, go_sem, h]
theorem e_ext1 {u v : Value} (h : ρ x = .tuple #[u, v]) : (execOp ρ ⟨d, .extract x 1, ty, pos, af, none⟩).run Tryz.prog w = .ok (.value v) w := by
 simp [execOp, go_sem, h]
theorem e_nif (h : ρ x = .nilIface) (hy : ρ (.const .nilIface) = .nilIface) : (execOp ρ ⟨d, .binOp .neq 45 x (.const .nilIface) 45, ty, pos, af, none⟩).run Tryz.prog w = .ok (.value (.bool false)) w := by
 simp [execOp, go_sem, h, hy]
 trace_state
theorem z20 : (#[.int .u64 0, .int .u64 0, .int .u64 0, .int .u64 0, .int .u64 0, .int .u64 0, .int .u64 0, .int .u64 0, .int .u64 0, .int .u64 0, .int .u64 0, .int .u64 0, .int .u64 0, .int .u64 0, .int .u64 0, .int .u64 0, .int .u64 0, .int .u64 0, .int .u64 0, .int .u64 0] : Array Value) = (intsV (List.replicate 20 .u64) pt0).toArray := rfl
theorem e_bldP : (execOp ρ ⟨d, .build 97 #[], ty, pos, af, none⟩).run Tryz.prog w = .ok (.value (.agg (intsV (List.replicate 20 .u64) pt0).toArray)) w := by
 rw [← z20]
 simp [execOp, go_sem]
theorem e_boxP {cs : Array Value} (h : ρ x = .agg cs) : (execOp ρ ⟨d, .box 97 x, ty, pos, af, none⟩).run Tryz.prog w = .ok (.value (.pointer (some ⟨w.heap.size, 0, none⟩))) (w.alloc (.cells cs 97)) := by
 simp [execOp, go_sem, h]
theorem e_k3 (h : ρ x = .pointer (some ⟨b, o, none⟩)) : (execOp ρ ⟨d, .fieldAddr 84 x 3, ty, pos, af, none⟩).run Tryz.prog w = .ok (.value (.pointer (some ⟨b, o + 68, none⟩))) w := by
 simp [execOp, go_sem, h]
theorem e_k1 (h : ρ x = .pointer (some ⟨b, o, none⟩)) : (execOp ρ ⟨d, .fieldAddr 84 x 1, ty, pos, af, none⟩).run Tryz.prog w = .ok (.value (.pointer (some ⟨b, o + 32, none⟩))) w := by
 simp [execOp, go_sem, h]
theorem e_s32 (hx : ρ x = .pointer (some ⟨b, o, none⟩)) : (execOp ρ ⟨d, .slice 48 x none none none, ty, pos, af, none⟩).run Tryz.prog w = .ok (.value (.slice (some ⟨b, o, none⟩) 32 32)) w := by
 have hu := run_underlying (w := w) Tryz.underlying48
 simp only [execOp, hx, Option.map_none, Instr.sliceAt, Sem.run_bind, hu, Result.andThen_ok]
 simp [Instr.sliceBounds, Instr.sureAddr, go_sem]
end
end Go.Proofs.YtloibefkijfdlaaGreatDoor

namespace Go.Proofs.YtloibefkijfdlaaGreatDoor
open Go
def strB (s : ByteArray) : List Int := s.data.toList.map fun b => (b.toNat : Int)
theorem strB_len (s : ByteArray) : (strB s).length = s.size := by simp [strB]
theorem strB_rng (s : ByteArray) : ∀ x ∈ strB s, 0 ≤ x ∧ x ≤ 255 := fun x hx => by
 obtain ⟨b, _, rfl⟩ := List.mem_map.1 hx
 have := b.toNat_lt
 omega
def domB (p c : ByteArray) : List Int := if p.toList == ([] : List UInt8) then [] else ([] ++ strB p ++ [IntKind.u8.wrap (c.size : Int)]) ++ strB c
def Msg (w : World) (v : Value) (xs : List Int) : Prop := ∃ (ap : Option Addr) (c : Nat), v = .slice ap xs.length c ∧ xs.length ≤ c ∧ (∀ x ∈ xs, 0 ≤ x ∧ x ≤ 255) ∧ (0 < xs.length → ∃ b o, ap = some ⟨b, o, none⟩ ∧ b < w.heap.size ∧ ∀ i, i < xs.length → w.cell? ⟨b, o + i, none⟩ = some (.int .u8 (xs.getD i 0)))
theorem Msg.psl {w w' : World} {B : Nat} {v : Value} {xs : List Int} (h : Msg w v xs) (hf : Frm w w' (fun _ _ => False)) (hB : w.heap.size ≤ B) : PSl w' B v xs := by
 obtain ⟨ap, c, h1, h2, h3, h4⟩ := h
 refine ⟨ap, c, h1, h2, h3, fun h0 => ?_⟩
 obtain ⟨b, o, e, hb, hc⟩ := h4 h0
 exact ⟨b, o, e, by omega, fun i hi => (hf.hasC (f := false) ⟨hc i hi, fun h => (by cases h)⟩ (fun h => h)).1⟩
theorem MemI.sub8 {f : Bool} {w : World} {b o k n : Nat} {ks : List IntKind} {xs : List Int} (h : MemI f w (b, o) ks xs) (hk : ∀ i, i < n → ks[k + i]? = some .u8) : MemI f w (b, o + k) (List.replicate n .u8) (cp xs k n) := by
 have hx : ∀ i, i < n → xs[k + i]? = some (xs.getD (k + i) 0) := fun i hi => by
  have := (List.getElem?_eq_some_iff.1 (hk i hi)).1
  have hl := h.1.1
  simp [List.getD, show k + i < xs.length by omega]
 have hg : ∀ i, i < n → (cp xs k n).getD i 0 = xs.getD (k + i) 0 := fun i hi => by simp [cp, List.getD, hi]
 refine mem8 (cp_len _ _ _) (fun z hz => ?_) fun i hi => ?_
 ·obtain ⟨i, hi, rfl⟩ := List.mem_map.1 hz
  have hi' := List.mem_range.1 hi
  have := h.1.2 (k + i) .u8 _ (hk i hi') (hx i hi')
  exact ⟨this.1, this.2⟩
 ·rw [hg i hi, Nat.add_assoc]
  exact h.2 (k + i) .u8 _ (hk i hi) (hx i hi)
theorem PSl.of_mem {f : Bool} {w : World} {B b o n c : Nat} {xs : List Int} (h : MemI f w (b, o) (List.replicate n .u8) xs) (hc : n ≤ c) (hb : b ≠ B) : PSl w B (.slice (some ⟨b, o, none⟩) n c) xs :=
 ⟨_, c, by rw [h.len8], by rw [h.len8]; exact hc, h.rng8, fun _ => ⟨b, o, rfl, hb, fun i hi => (h.at8 (by rw [h.len8] at hi; exact hi)).1.1⟩⟩
section
variable {ρ : Operand → Value} {d : Option Tmp} {x : Operand} {ty : TypeId} {pos : String} {af : Array Edge} {w : World}
def sW (w : World) (s : ByteArray) : World := w.drew.alloc (.cells (bytesRow s (grownCap w s.size 0 5)) 5 ((bytesRow s (grownCap w s.size 0 5)).size, (bytesRow s (grownCap w s.size 0 5)).size + 1))
theorem e_s2b {s : ByteArray} (h : ρ x = .string s) : (execOp ρ ⟨d, .convert 9 22 x, ty, pos, af, none⟩).run Tryz.prog w = .ok (.value (.slice (some ⟨w.heap.size, 0, none⟩) s.size (grownCap w s.size 0 5))) (sW w s) := by
 have hr := run_bytes_of_string (P := Tryz.prog) w 9 22 5 s Tryz.underlying9 Tryz.underlying22 Tryz.underlying5
 simp only [execOp, h, Sem.run_bind, hr, Result.andThen_ok]
 rfl
theorem sW_frm (w : World) (s : ByteArray) : Frm w (sW w s) (fun _ _ => False) := (Frm.refl w _).push (o := .cells (bytesRow s (grownCap w s.size 0 5)) 5 ((bytesRow s (grownCap w s.size 0 5)).size, (bytesRow s (grownCap w s.size 0 5)).size + 1)) rfl rfl rfl rfl
theorem sW_psl {w : World} {s : ByteArray} {B : Nat} (hB : B < w.heap.size) : PSl (sW w s) B (.slice (some ⟨w.heap.size, 0, none⟩) s.size (grownCap w s.size 0 5)) (strB s) := by
 refine ⟨_, grownCap w s.size 0 5, by rw [strB_len], by rw [strB_len]; exact grownCap_ge w s.size 0 _, strB_rng s, fun _ => ⟨w.heap.size, 0, rfl, by omega, fun i hi => ?_⟩⟩
 rw [strB_len] at hi
 have hi' : i < s.data.size := hi
 have hb := bytesRow_at s (grownCap w s.size 0 5) i hi'
 have hh : (sW w s).heap[w.heap.size]? = some (.cells (bytesRow s (grownCap w s.size 0 5)) 5 ((bytesRow s (grownCap w s.size 0 5)).size, (bytesRow s (grownCap w s.size 0 5)).size + 1)) := Array.getElem?_push_size
 unfold World.cell?
 simp only [hh, Nat.zero_add, hb, Option.isSome_none, Bool.false_eq_true, if_false]
 simp only [strB, List.getD, List.getElem?_map, Array.getElem?_toList, Array.getElem?_eq_getElem hi']
 rfl
end
theorem one_psl {w : World} {i : Int} {B : Nat} (hB : B < w.heap.size) (hi : 0 ≤ i ∧ i ≤ 255) : PSl (w.alloc (.cells #[.int .u8 i] 5)) B (.slice (some ⟨w.heap.size, 0, none⟩) 1 1) [i] := by
 refine ⟨_, 1, rfl, by simp, fun x hx => by rw [List.mem_singleton] at hx; rw [hx]; exact hi, fun _ => ⟨w.heap.size, 0, rfl, by omega, fun j hj => ?_⟩⟩
 have hj : j = 0 := by simpa using hj
 subst hj
 have hh : (w.alloc (.cells #[.int .u8 i] 5)).heap[w.heap.size]? = some (.cells #[.int .u8 i] 5) := Array.getElem?_push_size
 unfold World.cell?
 simp only [hh]
 rfl
theorem u8w (i : Int) : 0 ≤ IntKind.u8.wrap i ∧ IntKind.u8.wrap i ≤ 255 := by
 rw [wrap_uns (k := .u8) rfl]
 show 0 ≤ i % 256 ∧ i % 256 ≤ 255
 omega
noncomputable def sigR (dom pk msg : List Int) : List Int := suF (sha (dom ++ cp pk 68 32 ++ msg))
noncomputable def sigP (dom pk msg : List Int) : List Int := pbF (bmF (sigR dom pk msg))
noncomputable def sigK (dom pk msg : List Int) : List Int := suF (sha (dom ++ sigP dom pk msg ++ cp pk 32 32 ++ msg))
noncomputable def sigF (dom pk msg : List Int) : List Int := sigP dom pk msg ++ cp (sbF (fixL 4 (maF (sigK dom pk msg) (cp pk 64 4) (sigR dom pk msg)))) 0 32
structure SgP (GC : Nat → Nat → Option Value) (bs os c : Nat) (l : List Int) (w : World) (e : Ending) (w' : World) : Prop where
 ret : e = .returned (.slice (some ⟨bs, os, none⟩) 64 c)
 mem : MemI true w' (bs, os) (List.replicate 64 .u8) l
 frm : Frm w w' (fun b _ => b = bs)
 gw : GW GC w'
structure Sl (bs os cs bp op : Nat) (vm : Value) (p c : ByteArray) (f : Nat → Value) : Prop where
 f0 : f 0 = .slice (some ⟨bs, os, none⟩) 64 cs
 f1 : f 1 = .pointer (some ⟨bp, op, none⟩)
 f2 : f 2 = vm
 f3 : f 3 = .string p
 f4 : f 4 = .string c
theorem Sl.pin {bs os cs bp op : Nat} {vm : Value} {p c : ByteArray} {f : Nat → Value} {a : Act} (h : Sl bs os cs bp op vm p c f) (F : Fr a 124 f) : Fr a 124 (upd (upd (upd (upd (upd f 0 (.slice (some ⟨bs, os, none⟩) 64 cs)) 1 (.pointer (some ⟨bp, op, none⟩))) 2 vm) 3 (.string p)) 4 (.string c)) := by
 have F := F.pin h.f0
 have F := F.pin (t := 1) (v := .pointer (some ⟨bp, op, none⟩)) h.f1
 have F := F.pin (t := 2) (v := vm) h.f2
 have F := F.pin (t := 3) (v := .string p) h.f3
 exact F.pin (t := 4) (v := .string c) h.f4
end Go.Proofs.YtloibefkijfdlaaGreatDoor

namespace Go.Proofs.YtloibefkijfdlaaGreatDoor
open Go
theorem frm_F {w w1 w2 : World} {S : Nat → Nat → Prop} (h : Frm w w1 (fun _ _ => False)) (hf : Frm w1 w2 S) (hS : ∀ b i, S b i → w.heap.size ≤ b) : Frm w w2 (fun _ _ => False) := h.trans' hf fun b i hb hs => by have := hS b i hs; omega
theorem gw_F {GB : Nat} {GC : Nat → Nat → Option Value} {ad : Nat → Nat × Nat} (_hG : GOk GB GC ad) {w w' : World} (h : GW GC w) (hf : Frm w w' (fun _ _ => False)) : GW GC w' := fun b o v hv => (hf.hasC (f := false) ⟨h b o v hv, fun h => (by cases h)⟩ (fun h => h)).1
theorem frm_Fb {w w' : World} {S : Nat → Nat → Prop} (h : Frm w w' (fun _ _ => False)) : Frm w w' S := h.mono fun _ _ _ h => h.elim
theorem GOk.mono {GB GB' : Nat} {GC : Nat → Nat → Option Value} {ad : Nat → Nat × Nat} (h : GOk GB GC ad) (hle : GB ≤ GB') : GOk GB' GC ad := ⟨fun b o v hv => Nat.lt_of_lt_of_le (h.lt b o v hv) hle, h.ok, fun x hx => Nat.lt_of_lt_of_le (h.ob x hx) hle⟩
theorem toL_nil : (⟨#[]⟩ : ByteArray).toList = [] := by
 unfold ByteArray.toList ByteArray.toList.loop
 rfl
set_option maxRecDepth 100000 in
set_option maxHeartbeats 4000000 in
theorem swd_any {GB : Nat} {GC : Nat → Nat → Option Value} {ad : Nat → Nat × Nat} (hG : GOk GB GC ad) {w : World} {bs os cs bp op : Nat} {sg pk msg : List Int} {vm : Value} {p c : ByteArray} (hgw : GW GC w) (hGB : GB ≤ w.heap.size) (hsg : MemI true w (bs, os) (List.replicate 64 .u8) sg) (hbs : GB ≤ bs) (hcs : 64 ≤ cs) (hpk : MemI false w (bp, op) kPK pk) (_hne : bs ≠ bp) (hm : Msg w vm msg) (hml : msg.length < 1099511627776) (hpl : p.size < 1099511627776) (hcl : c.size < 1099511627776) :
  Calls Tryz.prog 91 #[.slice (some ⟨bs, os, none⟩) 64 cs, .pointer (some ⟨bp, op, none⟩), vm, .string p, .string c] w (SgP GC bs os cs (sigF (domB p c) pk msg) w) := by
 have hbsl : bs < w.heap.size := (hsg.at8 (i := 0) (by omega)).1.lt
 have hdl : (domB p c).length < 3298534883328 := by
  unfold domB
  split
  ·simp
  ·simp only [List.length_append, strB_len, List.length_cons, List.length_nil]; omega
 refine enter (args := [.slice (some ⟨bs, os, none⟩) 64 cs, .pointer (some ⟨bp, op, none⟩), vm, .string p, .string c]) Tryz.func91 rfl (n := 124) rfl fun a F => ?_
 refine w_sr (w_const F rfl fun a F => w_end ?_)
 refine w_sr (w_call F rfl rfl rfl (e_call0 rfl Tryz.call92) (new_any hG hgw hGB) fun e w1 h1 => ?_)
 obtain ⟨B, o, he, hB, hD1⟩ := h1.ret
 refine ⟨_, he, fun a F => w_assign F rfl fun a F => w_end ?_⟩
 have g1 := h1.frm
 have hGBB : GB ≤ B := Nat.le_trans hGB hB
 refine w_seqJ (J := fun a w' => ∃ f, Fr a 124 f ∧ Sl bs os cs bp op vm p c f ∧ f 11 = .pointer (some ⟨B, o, none⟩) ∧ Dig w' B o (domB p c) ∧ Frm w w' (fun _ _ => False)) ?_ ?_
 ·refine w_sr (w_move F rfl fun a F => w_val F rfl rfl rfl (e_neqs (t := ⟨#[]⟩) (F.ev rfl) rfl) fun a F => w_end (w_if F rfl (fun hb => ?_) fun hb => ?_))
  ·have hdom : domB p c = ([] ++ strB p ++ [IntKind.u8.wrap (c.size : Int)]) ++ strB c := by
    unfold domB
    rw [if_neg]
    intro h
    have e := toL_nil
    rw [e, h] at hb
    cases hb
   have hBl1 : B < w1.heap.size := by obtain ⟨x, D, _⟩ := hD1.ex; exact D.hs.lt
   refine w_sr (w_move F rfl fun a F => w_move F rfl fun a F => w_val F rfl rfl rfl (e_s2b (F.ev rfl)) fun a F =>
    w_call F rfl rfl rfl (e_call2 rfl (F.ev rfl) (F.ev rfl) Tryz.call93) (write_any hG (gw_F hG h1.gw (sW_frm _ _)) (Nat.le_trans (Nat.le_trans hGB g1.1) (sW_frm w1 p).1) hGBB (hD1.frm (sW_frm _ _) fun _ h => h) (sW_psl hBl1) (by rw [strB_len]; simp; omega)) fun e w2 h2 => ⟨_, h2.ret, fun a F => w_end ?_⟩)
   have g2 := frm_F (g1.trans (sW_frm w1 p)) h2.frm (fun b _ h => by omega)
   have hBl2 : B < w2.heap.size := by obtain ⟨x, D, _⟩ := h2.dig.ex; exact D.hs.lt
   have f2 := frm_alloc w2 (.cells #[.int .u8 (IntKind.u8.wrap (c.size : Int))] 5) (fun _ _ => False)
   refine w_sr (w_move F rfl fun a F => w_move F rfl fun a F => w_val F rfl rfl rfl (e_lens (F.ev rfl)) fun a F => w_val F rfl rfl rfl (e_cvb (F.ev rfl)) fun a F => w_val F rfl rfl rfl (e_bs1 (F.ev rfl)) fun a F =>
    w_call F rfl rfl rfl (e_call2 rfl (F.ev rfl) (F.ev rfl) Tryz.call93) (write_any hG (gw_F hG h2.gw f2) (Nat.le_trans (Nat.le_trans hGB g2.1) f2.1) hGBB (h2.dig.frm f2 fun _ h => h) (one_psl hBl2 (u8w _)) (by simp [strB_len]; omega)) fun e w3 h3 => ⟨_, h3.ret, fun a F => w_end ?_⟩)
   have g3 := frm_F (g2.trans f2) h3.frm (fun b _ h => by omega)
   have hBl3 : B < w3.heap.size := by obtain ⟨x, D, _⟩ := h3.dig.ex; exact D.hs.lt
   refine reg (w_move F rfl fun a F => w_move F rfl fun a F => w_val F rfl rfl rfl (e_s2b (F.ev rfl)) fun a F =>
    w_call F rfl rfl rfl (e_call2 rfl (F.ev rfl) (F.ev rfl) Tryz.call93) (write_any hG (gw_F hG h3.gw (sW_frm _ _)) (Nat.le_trans (Nat.le_trans hGB g3.1) (sW_frm w3 c).1) hGBB (h3.dig.frm (sW_frm _ _) fun _ h => h) (sW_psl hBl3) (by simp [strB_len]; omega)) fun e w4 h4 => ⟨_, h4.ret, fun a F => w_nil ?_⟩)
   have g4 := frm_F (g3.trans (sW_frm w3 c)) h4.frm (fun b _ h => by omega)
   exact ⟨rfl, _, F, ⟨rfl, rfl, rfl, rfl, rfl⟩, rfl, by rw [hdom]; exact h4.dig, g4⟩
  ·have hdom : domB p c = [] := by
    unfold domB
    rw [if_pos]
    have e := toL_nil
    rw [e] at hb
    simpa using hb
   exact w_nil_skip ⟨rfl, _, F, ⟨rfl, rfl, rfl, rfl, rfl⟩, rfl, by rw [hdom]; exact hD1, g1⟩
 clear F g1 hD1
 rintro a w4 ⟨f4, F4, S4, h11, hD4, g4⟩
 have F := (S4.pin F4).pin (t := 11) (v := .pointer (some ⟨B, o, none⟩)) h11
 clear F4 S4 h11
 have D5 : ∀ {w' : World}, Frm w w' (fun _ _ => False) → MemI false w' (bp, op) kPK pk := fun hf => hpk.frm hf fun _ _ h => h
 have hk68 : ∀ i, i < 32 → kPK[68 + i]? = some .u8 := by decide
 have hk32 : ∀ i, i < 32 → kPK[32 + i]? = some .u8 := by decide
 have hbpl : bp < w.heap.size := (hpk.2 0 .u8 _ (by decide) (lgE (by rw [hpk.1.1]; decide))).lt
 refine w_sr (w_move F rfl fun a F => w_move F rfl fun a F => w_nil' F rfl rfl fun a F => w_val F rfl rfl rfl (e_k3 (F.ev rfl)) fun a F => w_val F rfl rfl rfl (e_s32 (F.ev rfl)) fun a F =>
  w_call F rfl rfl rfl (e_call2 rfl (F.ev rfl) (F.ev rfl) Tryz.call93) (write_any hG (gw_F hG hgw g4) (Nat.le_trans hGB g4.1) hGBB hD4 (PSl.of_mem ((D5 g4).sub8 hk68) (Nat.le_refl _) (by omega)) (by rw [cp_len]; omega)) fun e w5 h5 => ⟨_, h5.ret, fun a F => w_end ?_⟩)
 have g5 := frm_F g4 h5.frm (fun b _ h => by omega)
 refine w_sr (w_move F rfl fun a F => w_move F rfl fun a F =>
  w_call F rfl rfl rfl (e_call2 rfl (F.ev rfl) (F.ev rfl) Tryz.call93) (write_any hG h5.gw (Nat.le_trans hGB g5.1) hGBB h5.dig (hm.psl g5 hB) (by rw [List.length_append, cp_len]; omega)) fun e w6 h6 => ⟨_, h6.ret, fun a F => w_end ?_⟩)
 have g6 := frm_F g5 h6.frm (fun b _ h => by omega)
 refine w_sr (w_val F rfl rfl rfl (e_ms rfl rfl) fun a F => w_assign F rfl fun a F => w_end ?_)
 have N7 := mem_new w6 64 .u8 5 ⟨by decide, by decide⟩
 have f7 : Frm w6 (w6.alloc (.cells (Array.replicate 64 (.int .u8 0)) 5)) (fun _ _ => False) := frm_alloc _ _ _
 generalize w6.alloc (.cells (Array.replicate 64 (.int .u8 0)) 5) = w7 at N7 f7 ⊢
 have g7 := g6.trans f7
 have hs6 : w.heap.size ≤ w6.heap.size := g6.1
 generalize hB7 : w6.heap.size = B7 at N7 F hs6
 refine w_sr (w_move F rfl fun a F => w_move F rfl fun a F => w_call F rfl rfl rfl (e_call2 rfl (F.ev rfl) (F.ev rfl) Tryz.call94) (sum_any hG (gw_F hG hgw g7) (Nat.le_trans hGB g7.1) (h6.dig.frm f7 fun _ h => h) (by rw [List.length_append, List.length_append, cp_len]; omega) (Nat.le_trans hGB hs6) N7 (Nat.le_refl _)) fun e w8 h8 => ⟨_, h8.ret, fun a F => w_assign F rfl fun a F => w_end ?_⟩)
 have g8 := frm_F g7 h8.frm (fun b _ h => by omega)
 refine w_sr (w_call F rfl rfl rfl (e_call0 rfl Tryz.call98) (nsc_any hG h8.gw (Nat.le_trans hGB g8.1)) fun e w9 h9 => ?_)
 obtain ⟨B9, o9, he9, hB9, hM9⟩ := h9.ret
 have g9 := g8.trans h9.frm
 have hB7l : B7 < w8.heap.size := (h8.mem.at8 (i := 0) (by omega)).1.lt
 refine ⟨_, he9, fun a F => w_move F rfl fun a F => w_call F rfl rfl rfl (e_call2 rfl (F.ev rfl) (F.ev rfl) Tryz.call99) (su_any hG h9.gw (Nat.le_trans hGB g9.1) hM9 (by have := g8.1; omega) ((show MemI true w9 (B7, 0) (List.replicate 64 .u8) _ from h8.mem.frm h9.frm fun _ _ h => h) |> fun h => ⟨h.1, fun i k x a b => (h.2 i k x a b).weak⟩) (Nat.le_refl _) (by omega)) fun e w10 h10 => ⟨_, h10.ret, fun a F => ?_⟩⟩
 refine w_move F rfl fun a F => w_val F rfl rfl rfl (e_ext (F.ev rfl)) fun a F => w_val F rfl rfl rfl (e_ext1 (F.ev rfl)) fun a F => w_assign F rfl fun a F => w_assign F rfl fun a F => w_end ?_
 have hB9w : w.heap.size ≤ B9 := by have := g8.1; omega
 have g10 := frm_F g9 h10.frm (fun b _ h => by omega)
 have hr4 : u4 (sigR (domB p c) pk msg) := suF_u4 h8.mem.rng8 (sha_len _)
 have MR : MemI true w10 (B9, o9) U4 (sigR (domB p c) pk msg) := h10.mem
 refine wp_seq (w_sr (w_move F rfl fun a F => w_val F rfl rfl rfl (e_nif (F.ev rfl) rfl) fun a F => w_end (wp_cond_false (F.ev rfl) (wp_skip ?_))))
 show Code.wp _ _ _ _ _
 refine w_sr (w_val F rfl rfl rfl e_bldP fun a F => w_val F rfl rfl rfl (e_boxP (F.ev rfl)) fun a F => ?_)
 have N11 := mem_newI w10 (List.replicate 20 .u64) pt0 97 (allR_of (by decide))
 have f11 : Frm w10 (w10.alloc (.cells (intsV (List.replicate 20 .u64) pt0).toArray 97)) (fun _ _ => False) := frm_alloc _ _ _
 generalize w10.alloc (.cells (intsV (List.replicate 20 .u64) pt0).toArray 97) = w11 at N11 f11 ⊢
 have g11 := g10.trans f11
 have hB9l : B9 < w10.heap.size := (MR.at64 (i := 0) (by omega)).1.lt
 have hs10 : w.heap.size ≤ w10.heap.size := g10.1
 generalize hB11 : w10.heap.size = B11 at N11 F hs10 hB9l
 refine w_move F rfl fun a F => w_call F rfl rfl rfl (e_call2 rfl (F.ev rfl) (F.ev rfl) Tryz.call105) (bm_any hG (gw_F hG hgw g11) (Nat.le_trans hGB g11.1) N11 (Nat.le_trans hGB hs10) ((show MemI true w11 (B9, o9) U4 _ from MR.frm f11 fun _ _ h => h) |> fun h => ⟨h.1, fun i k x a b => (h.2 i k x a b).weak⟩) (by omega) hr4) fun e w12 h12 => ⟨_, h12.ret, fun a F => w_assign F rfl fun a F => w_end ?_⟩
 have g12 := frm_F g11 h12.frm (fun b _ h => by omega)
 have MR12 := (MR.frm f11 fun _ _ h => h).frm h12.frm fun _ _ (h : B9 = B11) => by omega
 obtain ⟨Pt, hPt⟩ := bmF_r3 hr4
 refine w_sr (w_call F rfl rfl rfl (e_call0 rfl Tryz.call92) (new_any hG h12.gw (Nat.le_trans hGB g12.1)) fun e w13 h13 => ?_)
 obtain ⟨C, oc, hec, hC, hD13⟩ := h13.ret
 refine ⟨_, hec, fun a F => w_assign F rfl fun a F => w_end ?_⟩
 have g13 := g12.trans h13.frm
 have hCw : w.heap.size ≤ C := Nat.le_trans g12.1 hC
 have hGBC : GB ≤ C := Nat.le_trans hGB hCw
 have MR13 := MR12.frm h13.frm fun _ _ h => h
 have MP13 := h12.mem.frm h13.frm fun _ _ h => h
 have hB9C : B9 < C := by have := (MR12.at64 (i := 0) (by omega)).1.lt; omega
 have hB11C : B11 < C := by have := (h12.mem.at64 (i := 0) (by omega)).1.lt; omega
 refine w_seqJ (J := fun a w' => ∃ f, Fr a 124 f ∧ Sl bs os cs bp op vm p c f ∧ f 13 = .pointer (some ⟨B9, o9, none⟩) ∧ f 15 = .pointer (some ⟨B11, 0, none⟩) ∧ f 16 = .pointer (some ⟨C, oc, none⟩) ∧ Dig w' C oc (domB p c) ∧ Frm w13 w' (fun b _ => b = C)) ?_ ?_
 ·refine w_sr (w_move F rfl fun a F => w_val F rfl rfl rfl (e_neqs (t := ⟨#[]⟩) (F.ev rfl) rfl) fun a F => w_end (w_if F rfl (fun hb => ?_) fun hb => ?_))
  ·have hdom : domB p c = ([] ++ strB p ++ [IntKind.u8.wrap (c.size : Int)]) ++ strB c := by
    unfold domB
    rw [if_neg]
    intro h
    have e := toL_nil
    rw [e, h] at hb
    cases hb
   have hBl1 : C < w13.heap.size := by obtain ⟨x, D, _⟩ := hD13.ex; exact D.hs.lt
   refine w_sr (w_move F rfl fun a F => w_move F rfl fun a F => w_val F rfl rfl rfl (e_s2b (F.ev rfl)) fun a F =>
    w_call F rfl rfl rfl (e_call2 rfl (F.ev rfl) (F.ev rfl) Tryz.call93) (write_any hG (gw_F hG h13.gw (sW_frm _ _)) (Nat.le_trans (Nat.le_trans hGB g13.1) (sW_frm w13 p).1) hGBC (hD13.frm (sW_frm _ _) fun _ h => h) (sW_psl hBl1) (by rw [strB_len]; simp; omega)) fun e w2 h2 => ⟨_, h2.ret, fun a F => w_end ?_⟩)
   have k2 : Frm w13 w2 (fun b _ => b = C) := (frm_Fb (sW_frm w13 p)).trans h2.frm
   have hBl2 : C < w2.heap.size := by obtain ⟨x, D, _⟩ := h2.dig.ex; exact D.hs.lt
   have f2 := frm_alloc w2 (.cells #[.int .u8 (IntKind.u8.wrap (c.size : Int))] 5) (fun _ _ => False)
   refine w_sr (w_move F rfl fun a F => w_move F rfl fun a F => w_val F rfl rfl rfl (e_lens (F.ev rfl)) fun a F => w_val F rfl rfl rfl (e_cvb (F.ev rfl)) fun a F => w_val F rfl rfl rfl (e_bs1 (F.ev rfl)) fun a F =>
    w_call F rfl rfl rfl (e_call2 rfl (F.ev rfl) (F.ev rfl) Tryz.call93) (write_any hG (gw_F hG h2.gw f2) (Nat.le_trans (Nat.le_trans (Nat.le_trans hGB g13.1) k2.1) f2.1) hGBC (h2.dig.frm f2 fun _ h => h) (one_psl hBl2 (u8w _)) (by simp [strB_len]; omega)) fun e w3 h3 => ⟨_, h3.ret, fun a F => w_end ?_⟩)
   have k3 : Frm w13 w3 (fun b _ => b = C) := (k2.trans (frm_Fb f2)).trans h3.frm
   have hBl3 : C < w3.heap.size := by obtain ⟨x, D, _⟩ := h3.dig.ex; exact D.hs.lt
   refine reg (w_move F rfl fun a F => w_move F rfl fun a F => w_val F rfl rfl rfl (e_s2b (F.ev rfl)) fun a F =>
    w_call F rfl rfl rfl (e_call2 rfl (F.ev rfl) (F.ev rfl) Tryz.call93) (write_any hG (gw_F hG h3.gw (sW_frm _ _)) (Nat.le_trans (Nat.le_trans (Nat.le_trans hGB g13.1) k3.1) (sW_frm w3 c).1) hGBC (h3.dig.frm (sW_frm _ _) fun _ h => h) (sW_psl hBl3) (by simp [strB_len]; omega)) fun e w4 h4 => ⟨_, h4.ret, fun a F => w_nil ?_⟩)
   exact ⟨rfl, _, F, ⟨rfl, rfl, rfl, rfl, rfl⟩, rfl, rfl, rfl, by rw [hdom]; exact h4.dig, (k3.trans (frm_Fb (sW_frm w3 c))).trans h4.frm⟩
  ·have hdom : domB p c = [] := by
    unfold domB
    rw [if_pos]
    have e := toL_nil
    rw [e] at hb
    simpa using hb
   exact w_nil_skip ⟨rfl, _, F, ⟨rfl, rfl, rfl, rfl, rfl⟩, rfl, rfl, rfl, by rw [hdom]; exact hD13, Frm.refl _ _⟩
 clear F
 rintro a w14 ⟨f14, F14, S14, h13', h15, h16, hD14, k14⟩
 have F := (S14.pin F14).pin (t := 13) (v := .pointer (some ⟨B9, o9, none⟩)) h13'
 have F := F.pin (t := 15) (v := .pointer (some ⟨B11, 0, none⟩)) h15
 have F := F.pin (t := 16) (v := .pointer (some ⟨C, oc, none⟩)) h16
 clear F14 S14 h13' h15 h16
 have g14 := frm_F g13 k14 (fun b _ h => by omega)
 have MR14 := MR13.frm k14 fun _ _ (h : B9 = C) => by omega
 have MP14 := MP13.frm k14 fun _ _ (h : B11 = C) => by omega
 have gw14 := gw_F hG hgw g14
 have weak : ∀ {w' : World} {b o : Nat} {ks : List IntKind} {l : List Int}, MemI true w' (b, o) ks l → MemI false w' (b, o) ks l := fun h => ⟨h.1, fun i k x a b => (h.2 i k x a b).weak⟩
 refine w_sr (w_move F rfl fun a F => w_move F rfl fun a F => w_call F rfl rfl rfl (e_call1 rfl (F.ev rfl) Tryz.call104) (pb_any hG gw14 (Nat.le_trans hGB g14.1) (weak MP14) hPt) fun e w15 h15 => ?_)
 obtain ⟨B15, o15, he15, hB15, hM15⟩ := h15.ret
 have g15 := g14.trans h15.frm
 have hC14 : C < w14.heap.size := by obtain ⟨x, D, _⟩ := hD14.ex; exact D.hs.lt
 refine ⟨_, he15, fun a F => w_call F rfl rfl rfl (e_call2 rfl (F.ev rfl) (F.ev rfl) Tryz.call93) (write_any hG h15.gw (Nat.le_trans hGB g15.1) hGBC (hD14.frm h15.frm fun _ h => h) (PSl.of_mem hM15 (Nat.le_refl _) (by omega)) (by rw [hM15.len8]; omega)) fun e w16 h16 => ⟨_, h16.ret, fun a F => w_end ?_⟩⟩
 have g16 := frm_F g15 h16.frm (fun b _ h => by omega)
 have hPl : (sigP (domB p c) pk msg).length = 32 := hM15.len8
 refine w_sr (w_move F rfl fun a F => w_move F rfl fun a F => w_nil' F rfl rfl fun a F => w_val F rfl rfl rfl (e_k1 (F.ev rfl)) fun a F => w_val F rfl rfl rfl (e_s32 (F.ev rfl)) fun a F =>
  w_call F rfl rfl rfl (e_call2 rfl (F.ev rfl) (F.ev rfl) Tryz.call93) (write_any hG h16.gw (Nat.le_trans hGB g16.1) hGBC h16.dig (PSl.of_mem ((D5 g16).sub8 hk32) (Nat.le_refl _) (by omega)) (by rw [List.length_append, cp_len, hM15.len8]; omega)) fun e w17 h17 => ⟨_, h17.ret, fun a F => w_end ?_⟩)
 have g17 := frm_F g16 h17.frm (fun b _ h => by omega)
 refine w_sr (w_move F rfl fun a F => w_move F rfl fun a F =>
  w_call F rfl rfl rfl (e_call2 rfl (F.ev rfl) (F.ev rfl) Tryz.call93) (write_any hG h17.gw (Nat.le_trans hGB g17.1) hGBC h17.dig (hm.psl g17 hCw) (by rw [List.length_append, List.length_append, cp_len, hM15.len8]; omega)) fun e w18 h18 => ⟨_, h18.ret, fun a F => w_end ?_⟩)
 have g18 := frm_F g17 h18.frm (fun b _ h => by omega)
 have k18 : Frm w14 w18 (fun b _ => b = C) := (((frm_Fb h15.frm).trans h16.frm).trans h17.frm).trans h18.frm
 refine w_sr (w_val F rfl rfl rfl (e_ms rfl rfl) fun a F => w_assign F rfl fun a F => w_end ?_)
 have N19 := mem_new w18 64 .u8 5 ⟨by decide, by decide⟩
 have f19 : Frm w18 (w18.alloc (.cells (Array.replicate 64 (.int .u8 0)) 5)) (fun _ _ => False) := frm_alloc _ _ _
 generalize w18.alloc (.cells (Array.replicate 64 (.int .u8 0)) 5) = w19 at N19 f19 ⊢
 have g19 := g18.trans f19
 have hs18 : w14.heap.size ≤ w18.heap.size := k18.1
 have hs14 : w.heap.size ≤ w14.heap.size := g14.1
 have hB9l14 : B9 < w14.heap.size := (MR14.at64 (i := 0) (by omega)).1.lt
 have hB11l14 : B11 < w14.heap.size := (MP14.at64 (i := 0) (by omega)).1.lt
 generalize hB19 : w18.heap.size = B19 at N19 F hs18
 refine w_sr (w_move F rfl fun a F => w_move F rfl fun a F => w_call F rfl rfl rfl (e_call2 rfl (F.ev rfl) (F.ev rfl) Tryz.call94) (sum_any hG (gw_F hG hgw g19) (Nat.le_trans hGB g19.1) (h18.dig.frm f19 fun _ h => h) (by rw [List.length_append, List.length_append, List.length_append, cp_len, hM15.len8]; omega) (by omega) N19 (Nat.le_refl _)) fun e w20 h20 => ⟨_, h20.ret, fun a F => w_assign F rfl fun a F => w_end ?_⟩)
 have g20 := frm_F g19 h20.frm (fun b _ h => by omega)
 refine w_sr (w_call F rfl rfl rfl (e_call0 rfl Tryz.call98) (nsc_any hG h20.gw (Nat.le_trans hGB g20.1)) fun e w21 h21 => ?_)
 obtain ⟨B21, o21, he21, hB21, hM21⟩ := h21.ret
 have g21 := g20.trans h21.frm
 have hB19l : B19 < w20.heap.size := (h20.mem.at8 (i := 0) (by omega)).1.lt
 refine ⟨_, he21, fun a F => w_move F rfl fun a F => w_call F rfl rfl rfl (e_call2 rfl (F.ev rfl) (F.ev rfl) Tryz.call99) (su_any hG h21.gw (Nat.le_trans hGB g21.1) hM21 (by have := g20.1; omega) (weak (h20.mem.frm h21.frm fun _ _ h => h)) (Nat.le_refl _) (by omega)) fun e w22 h22 => ⟨_, h22.ret, fun a F => ?_⟩⟩
 refine w_move F rfl fun a F => w_val F rfl rfl rfl (e_ext (F.ev rfl)) fun a F => w_val F rfl rfl rfl (e_ext1 (F.ev rfl)) fun a F => w_assign F rfl fun a F => w_assign F rfl fun a F => w_end ?_
 have hB21w : w.heap.size ≤ B21 := by have := g20.1; omega
 have g22 := frm_F g21 h22.frm (fun b _ h => by omega)
 have MK : MemI true w22 (B21, o21) U4 (sigK (domB p c) pk msg) := h22.mem
 have k22 : ∀ {b o : Nat} {ks : List IntKind} {l : List Int}, b < w14.heap.size → b ≠ C → MemI true w14 (b, o) ks l → MemI true w22 (b, o) ks l := fun {b o ks l} hb hbC h => by
  have e1 := h.frm k18 fun _ _ (h : b = C) => hbC h
  have e2 := (e1.frm f19 fun _ _ h => h).frm h20.frm fun _ _ (h : b = B19) => by omega
  exact (e2.frm h21.frm fun _ _ h => h).frm h22.frm fun _ _ (h : b = B21) => by have := h20.frm.1; have := f19.1; omega
 have MR22 := k22 hB9l14 (by omega) MR14
 have MP22 := k22 hB11l14 (by omega) MP14
 refine wp_seq (w_sr (w_move F rfl fun a F => w_val F rfl rfl rfl (e_nif (F.ev rfl) rfl) fun a F => w_end (wp_cond_false (F.ev rfl) (wp_skip ?_))))
 show (Code.seq (rS 27) (Code.seq (rS 28) (Code.seq (rS 29) _))).wp _ _ _ _
 refine wp_seq (wp_mono (s27_wp (hG.mono (Nat.le_trans hGB g22.1)) F h22.gw (Nat.le_refl _) rfl rfl rfl (weak MK) (D5 g22) (weak MR22)) ?_)
 rintro e a w23 ⟨rfl, f23, B23, o23, F23, q19, M23, q23, h23, gw23, q0, q15⟩
 have g23 := g22.trans h23
 show (Code.seq (rS 28) _).wp _ _ _ _
 refine wp_seq (wp_mono (s28_wp hG F23 gw23 (Nat.le_trans hGB g23.1) (q0.trans rfl) hcs (q15.trans rfl) (hsg.frm g23 fun _ _ h => h) hbs (weak (MP22.frm h23 fun _ _ h => h)) (by omega) hPt) ?_)
 rintro e a w24 ⟨rfl, f24, F24, M24, k24, gw24, p0, p19⟩
 have hb23 : bs < B23 := by have := g22.1; omega
 have M23' := M23.frm k24 fun _ _ (h : B23 = bs) => by omega
 have gg24 : Frm w w24 (fun b _ => b = bs) := (frm_Fb g23).trans k24
 show (Code.seq (rS 29) _).wp _ _ _ _
 refine wp_seq (wp_mono (s29_wp hG F24 gw24 (Nat.le_trans hGB gg24.1) (p0.trans (q0.trans rfl)) hcs (p19.trans q19) M24 hbs (weak M23') (by omega)) ?_)
 rintro e a w25 ⟨rfl, f25, F25, M25, k25, gw25, r0⟩
 have F := F25.pin (t := 0) (v := .slice (some ⟨bs, os, none⟩) 64 cs) (r0.trans (p0.trans (q0.trans rfl)))
 refine w_sr (w_move F rfl fun a F => w_assign F rfl fun a F => w_end ?_)
 refine w_ret ⟨F.df, .slice (some ⟨bs, os, none⟩) 64 cs, ?_, rfl, ?_, gg24.trans k25, gw25⟩
 ·have h10 := F.tm 10
  rw [Array.getD_eq_getD_getElem?] at h10
  simp [results, Tryz.results91, go_sem]
  exact h10
 ·rw [cp_app (cp_len _ _ _), cp_all hM15.len8] at M25
  exact M25
end Go.Proofs.YtloibefkijfdlaaGreatDoor
