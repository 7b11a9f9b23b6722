/- The symbolic executor, part 28: pieces of code, told as rounds are, with further numbers that they leave in slots. -/
import Derived.Test.YtloibefkijfdlaaGreatDoorSb
namespace Go.Proofs.YtloibefkijfdlaaGreatDoor
open Go
structure SgI where
 i : LpI
 qs : List Nat
 es : List PSh
def SgI.leaf (g : SgI) (e : Ex) (st : St) : Option (List Arg × List Arg) := match g.i.leaf e st with
 | some (true, as) => (match looks st g.qs with
  | some vs => (match argsP st g.es vs with
   | some (as2, ms2) => bif wrOk st.rg ms2 then some (as, as2) else none
   | none => none)
  | none => none)
 | _ => none
def SgI.leafB (g : SgI) (m : Nat) (e : Ex) (st : St) : Bool := match g.leaf e st with
 | some (as, as2) => as.all (·.inM m) && as2.all (·.inM m)
 | none => false
def SgI.step (g : SgI) (C : Cx) (ins : List (List Int)) : Option (List (List Int) × List (List Int)) :=
 match evX C.T (g.i.tree C) (insE ins) with
 | some (ρ, e, st) => (match g.leaf e st with
  | some (as, as2) => some (as.map (·.den ρ), as2.map (·.den ρ))
  | none => none)
 | none => none
def SgI.chk (g : SgI) (C : Cx) : Bool := okG C.T (g.leafB) (parM g.i.s0.params.length) (g.i.tree C) && wrOuts g.i.s0.outs 0 g.i.s0.params && outsOk g.i.s0.params g.i.s0.outs && Nat.ble g.i.s0.params.length g.i.nt && Nat.ble g.i.s0.params.length 500 && Nat.beq g.i.ps.length g.i.s0.params.length && nodup g.i.ps && g.i.ps.all (fun t => Nat.blt t g.i.nt && notIn t g.i.cl)
theorem SgI.leaf_get {g : SgI} {e : Ex} {st : St} {as as2 : List Arg} (h : g.leaf e st = some (as, as2)) : ∃ vs2 ms2, g.i.leaf e st = some (true, as) ∧ looks st g.qs = some vs2 ∧ argsP st g.es vs2 = some (as2, ms2) ∧ wrOk st.rg ms2 = true := by
 unfold SgI.leaf at h
 split at h
 ·rename_i as' h1
  split at h
  ·rename_i vs h2
   split at h
   ·rename_i as2' ms2 h3
    cases hb : wrOk st.rg ms2 with
    | false => rw [hb] at h; cases h
    | true =>
     rw [hb, cond_true, osE, Prod.mk.injEq] at h
     obtain ⟨rfl, rfl⟩ := h
     exact ⟨vs, ms2, h1, h2, h3, hb⟩
   ·cases h
  ·cases h
 ·cases h
section
variable {P : Program} {C : Cx} {GB : Nat} {GC : Nat → Nat → Option Value} (hC : CxOk P C GB GC) {g : SgI} {ad : Nat → Nat × Nat} (hk : g.chk C = true) (hgl : glsOk GC ad g.i.gls) (hgb : ∀ x ∈ g.i.gls, (base ad x.1).1 < GB)
 (hcov : ∀ E : En, E.P = P → E.C = C → E.GB = GB → E.GC = GC → Cov E g.i.c ∧ ∀ f j, lk f C.inl = some j → Cov E j.c)
include hC hk hgl hgb hcov
theorem sg_round {a : Act} {w : World} {ins : List (List Int)} {bs : List (Nat × Nat)} (hgw : GW GC w) (hGB : GB ≤ w.heap.size) (hP : PMs GB w g.i.s0.params (g.i.ps.map fun t => a.tmps.getD t undef) ins bs) (hS : PSeps g.i.s0.params bs)
  (hsz : a.tmps.size = g.i.nt) (hdf : a.defers = []) (ho : evOb C.T (g.i.tree C) (insE ins)) :
  g.i.c.wp P (fun e a' w' => ∃ r r2 bs2, g.step C ins = some (r, r2) ∧ e = .normal ∧ PMs GB w' g.es (g.qs.map fun t => a'.tmps.getD t undef) r2 bs2 ∧ PMs GB w' g.i.s0.params (g.i.ps.map fun t => a'.tmps.getD t undef) r bs ∧ Frm w w' (Sout g.i.s0 bs) ∧
   a'.tmps.size = g.i.nt ∧ a'.defers = [] ∧ (∀ t, t ∈ g.i.keep → a'.tmps.getD t undef = a.tmps.getD t undef) ∧
   (∀ (j t : Nat) (p : PSh), g.i.s0.params[j]? = some p → p.reg ≠ none → g.i.ps[j]? = some t → a'.tmps.getD t undef = a.tmps.getD t undef) ∧ GW GC w') a w := by
 unfold SgI.chk at hk
 simp only [baE] at hk
 obtain ⟨⟨⟨⟨⟨⟨⟨k1, k2⟩, k3⟩, k4⟩, k5⟩, k6⟩, k7⟩, k8⟩ := hk
 have hnt := nbL k4
 have hnp := nbL k5
 have hlen := nbE k6
 have hE0 := hC.ok w (Sout g.i.s0 bs) (i0 bs 0 g.i.s0.params) g.i.s0.params.length (fun j => (g.i.ps.map fun t => a.tmps.getD t undef).getD j undef) hGB
 have hS0 := init_ok (P := P) (C := C) (gls := g.i.gls) (nt := g.i.nt) hE0.gc hgw hGB hP hS k2 hgl hgb hnt hnp
 generalize hargs : (g.i.ps.map fun t => a.tmps.getD t undef) = args at hP hS0 hE0
 let np := g.i.s0.params.length
 let V0 := v0 ad np args ins bs g.i.gls
 let V : Vl := { V0 with σ := fun j => if j < 2 * np then V0.σ j else a.tmps.getD (j - 2 * np) undef }
 let nv := 2 * np + g.i.nt
 let E0 : En := e0 P C GB GC g.i.s0 args bs w
 let E : En := Ev E0 (i0 bs 0 g.i.s0.params) nv V.σ
 have hE : EnOk E := EnOk.ev hE0 _ _ _
 have hag : Ag (2 * np) (idsR (st0 g.i.s0.params g.i.gls g.i.nt).rg) V0 V := ⟨fun _ _ => rfl, fun j hj => if_pos hj, fun _ _ => rfl⟩
 have hm0 := hS0.s.m.ag hag hS0.s.scp
 have hargl : args.length = np := by rw [← hargs, List.length_map, hlen]
 have hSt : SatX E g.i.st V a w := by
  refine ⟨⟨⟨hm0.rgs, hm0.one, hm0.sep, hm0.cov, hm0.frm, hm0.gw⟩, fun r hr lv hlv => LV.lt_mono (show 2 * np ≤ nv by omega) (fun _ h => h) (hS0.s.scp r hr lv hlv), ⟨fun t v hv => ?_, fun g l hg => ?_, fun p hp => hS0.s.t.ln p hp⟩, hsz, hdf⟩, fun p hp => ?_, fun p hp => hS0.kp p hp, fun _ _ => rfl, Nat.le_refl _⟩
  ·have hv' : lk t (zipS np 0 g.i.ps g.i.s0.params ++ g.i.keep.map fun t => (t, SV.any (2 * np + t))) = some v := hv
   rcases zipS_get hv' with ⟨j, p, h1, h2, h3⟩ | h
   ·rw [Nat.zero_add] at h3
    subst h3
    have h4 := tm0_at (np := np) (i := 0) h2
    rw [Nat.zero_add] at h4
    obtain ⟨g1, g2, g3⟩ := hS0.s.t.tm j (slot0 np j p) (by simp only [St.look, st0, lk]; exact h4)
    have hj : j < args.length := by have := (List.getElem?_eq_some_iff.1 h2).1; omega
    refine ⟨?_, SV.ok_ag hag g3 g2, SV.lt_mono (show 2 * np ≤ nv by omega) (fun _ h => h) g3⟩
    rw [SV.den_ag hag g3, ← g1, Array.getD_eq_getD_getElem?, Array.getD_eq_getD_getElem?, Array.getElem?_append_left (by simpa using hj)]
    have : args[j]? = some (a.tmps.getD t undef) := by rw [← hargs, List.getElem?_map, h1]; rfl
    rw [List.getElem?_toArray (xs := args), this, Array.getD_eq_getD_getElem?]; rfl
   ·obtain ⟨h1, h2⟩ := keep_get h
    subst h2
    have hlt : t < g.i.nt := by
     have := (List.mem_filter.1 h1).1
     exact List.mem_range.1 this
    refine ⟨?_, trivial, ?_⟩
    ·show _ = (if 2 * np + t < 2 * np then V0.σ (2 * np + t) else a.tmps.getD (2 * np + t - 2 * np) undef)
     rw [if_neg (by omega), Nat.add_sub_cancel_left]
    ·exact blt_of (show 2 * np + t < nv by omega)
  ·exact hS0.s.t.gl g l hg
  ·exact Nat.lt_of_lt_of_le (hS0.ll p hp) (show 2 * np ≤ nv by omega)
 obtain ⟨ρL, eL, stL, m0, hev, hlf⟩ := evX_some (ρc := insE ins) k1
 have hlf' := hlf
 unfold SgI.leafB at hlf'
 cases hgleaf : g.leaf eL stL with
 | none => rw [hgleaf] at hlf'; cases hlf'
 | some q =>
 obtain ⟨as, as2⟩ := q
 have hstep : g.step C ins = some (as.map (·.den ρL), as2.map (·.den ρL)) := by
  unfold SgI.step; rw [hev]; simp only [hgleaf]
 have hT : (g.i.tree C).HoldsA C.T (fun ρ ex st => AgE nv V.ρ ρ ∧ ex = eL ∧ st = stL ∧ as.map (·.den ρ) = as.map (·.den ρL) ∧ as2.map (·.den ρ) = as2.map (·.den ρL)) nv V.ρ := fun ρ' hρ => by
  refine okG_holds (fun m hm hr => by
   unfold SgI.leafB at hm
   rw [hgleaf] at hm
   simp only [baE] at hm
   exact ⟨hρ, rfl, rfl, Args.den_RM hr hm.1, Args.den_RM hr hm.2⟩) k1 ?_ ho hev
  ·intro j hj
   have hj' := parM_in hj
   rw [hρ j (show j < nv by omega)]
   show V0.ρ j = _
   simp only [V0, v0, np, hj', if_true]
   rfl
 have hcv := hcov E rfl rfl rfl rfl
 have hcv0 := hcov E0 rfl rfl rfl rfl
 have hex := exec_ok (E0 := E0) hE0 hC.il hcv0.2 g.i.n (i0 bs 0 g.i.s0.params) nv V.σ _ [] g.i.c g.i.st V a w (fun x hx => (by cases hx)) trivial hcv.1 rfl hSt hT
 refine wp_mono (codeQ_wp hex) ?_
 rintro e a' w' ⟨ex, st', V', hx, hlc, hS', hΦ⟩
 obtain ⟨hag', rfl, rfl, hden, hden2⟩ := hΦ V'.ρ (AgE.refl _ _)
 obtain ⟨vs2, ms2, hleaf, hv2, hA2, hw2⟩ := SgI.leaf_get hgleaf
 refine ⟨as.map (·.den ρL), as2.map (·.den ρL), ms2.map (mpB V'), hstep, ?_⟩
 unfold LpI.leaf at hleaf
 split at hleaf
 ·cases hleaf
 rename_i b0 hb0
 split at hleaf
 ·cases hleaf
 rename_i vs hvs
 split at hleaf
 ·cases hleaf
 rename_i as' ms hA
 cases hb : (wrOk st'.rg ms && homeM g.i.s0.params.length 0 g.i.s0.params vs ms && g.i.keep.all (anyAt g.i.s0.params.length st') && Nat.beq st'.nt g.i.nt) with
 | false => rw [hb] at hleaf; cases hleaf
 | true =>
 rw [hb, cond_true, osE, Prod.mk.injEq] at hleaf
 obtain ⟨rfl, rfl⟩ := hleaf
 simp only [baE] at hb
 have hnt' := nbE hb.2
 replace hb := hb.1
 obtain ⟨q1, q2⟩ := looks_spec hS' hvs
 obtain ⟨r1, -, -, -, -⟩ := argsP_ok (E := E) hS'.s.m hS'.s.t.ln hA (fun v hv => (q2 v hv).1) hb.1.1
 obtain ⟨u1, u2⟩ := homeM_get (V := V') hb.1.2
 have hνp : ∀ (j : Nat) (p : PSh), g.i.s0.params[j]? = some p → p.reg ≠ none → V'.ν j = bs.getD j (0, 0) := fun j p hp hn => by
  have := i0_mem (bs := bs) (i := 0) hp hn
  rw [Nat.zero_add] at this
  exact (hS'.kp _ this).2
 obtain ⟨l1, l2, l3⟩ := PMs_args hP
 obtain ⟨y1, y2⟩ := looks_spec hS' hv2
 obtain ⟨z1, -, -, -, -⟩ := argsP_ok (E := E) hS'.s.m hS'.s.t.ln hA2 (fun v hv => (y2 v hv).1) hw2
 refine ⟨?_, ?_, ?_, hS'.s.m.frm, hS'.s.nt.trans hnt', hS'.s.df, fun t ht => ?_, fun j t p hp hn ht => ?_, hS'.s.m.gw⟩
 ·cases hx with
  | normal => rfl
  | exit j =>
   simp only at hb0
   cases hj : Nat.beq j g.i.id with
   | false => rw [hj] at hb0; cases hb0
   | true => rw [hj] at hb0; cases hb0
  | ret => cases hb0
 ·rw [y1, ← hden2]; exact z1
 ·rw [q1, ← hden]
  refine PMs_bs r1 l3 fun j p hp hn => ?_
  rw [(u2 j p hp hn).1, Nat.zero_add, hνp j p hp hn]
 ·have h1 := List.all_eq_true.1 hb.2 t ht
  unfold anyAt at h1
  split at h1
  ·rename_i j hj
   have := nbE h1
   subst this
   have hlt : t < g.i.nt := List.mem_range.1 (List.mem_filter.1 ht).1
   obtain ⟨g1, -, -⟩ := hS'.s.t.tm t _ (by simp only [St.look, hlc, lk]; exact hj)
   rw [g1]
   show V'.σ (2 * np + t) = _
   rw [hS'.ks (2 * np + t) (show 2 * np + t < nv by omega)]
   show (if 2 * np + t < 2 * np then V0.σ (2 * np + t) else a.tmps.getD (2 * np + t - 2 * np) undef) = _
   rw [if_neg (by omega), Nat.add_sub_cancel_left]
  ·cases h1
 ·have h1 := (u2 j p hp hn).2
  rw [Nat.zero_add] at h1
  have h2 : a'.tmps.getD t undef = (slot0 np j p).den V' := by
   have e1 : (g.i.ps.map fun t => a'.tmps.getD t undef)[j]? = some (a'.tmps.getD t undef) := by rw [List.getElem?_map, ht]; rfl
   rw [q1, List.getElem?_map, h1] at e1
   exact (Option.some.inj e1).symm
  have h4 := tm0_at (np := np) (i := 0) hp
  rw [Nat.zero_add] at h4
  obtain ⟨g1, g2, g3⟩ := hS0.s.t.tm j (slot0 np j p) (by simp only [St.look, st0, lk]; exact h4)
  have hj : j < args.length := by have := (List.getElem?_eq_some_iff.1 hp).1; omega
  have h5 : a.tmps.getD t undef = (slot0 np j p).den V0 := by
   rw [← g1, Array.getD_eq_getD_getElem? (xs := args.toArray ++ _), Array.getElem?_append_left (by simpa using hj)]
   have : args[j]? = some (a.tmps.getD t undef) := by rw [← hargs, List.getElem?_map, ht]; rfl
   rw [List.getElem?_toArray (xs := args), this]; rfl
  rw [h2, h5]
  have hlt : j < np := by omega
  have hν : V'.ν j = V0.ν j := by
   rw [hνp j p hp hn]
   have := (hS0.kp _ (by have := i0_mem (bs := bs) (i := 0) hp hn; rw [Nat.zero_add] at this; exact this)).2
   exact this.symm
  have hρ : V'.ρ (np + j) = V0.ρ (np + j) := hag' (np + j) (show np + j < nv by omega)
  have hσ : V'.σ j = V0.σ j := by
   rw [hS'.ks j (show j < nv by omega)]
   exact if_pos (show j < 2 * np by omega)
  cases p with
  | mem ks g wr => simp only [slot0, SV.den_t, TV.den_l, LV.den_ptr, hν]
  | sl ks g wr => simp only [slot0, SV.den_t, TV.den_l, LV.den_sl, CX.den_n, X.den, hν, hρ]
  | slm ks g wr => simp only [slot0, SV.den_t, TV.den_l, LV.den]; exact hσ
  | int k => exact absurd rfl hn
  | bool => exact absurd rfl hn
  | agg ks => exact absurd rfl hn
end
end Go.Proofs.YtloibefkijfdlaaGreatDoor
