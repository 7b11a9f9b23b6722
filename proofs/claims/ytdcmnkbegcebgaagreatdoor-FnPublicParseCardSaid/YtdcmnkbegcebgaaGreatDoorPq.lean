/- Public keys: the one of a private key is parsed. -/
import Derived.Test.YtdcmnkbegcebgaaGreatDoorDc1
import Derived.Test.YtdcmnkbegcebgaaGreatDoorLx
import Derived.Test.YtdcmnkbegcebgaaGreatDoorPt7
namespace Go.Proofs.YtdcmnkbegcebgaaGreatDoor
open Go Ma Go.RowKit

theorem sb_gv {T : Tb} (h : lk 40 T = some (.one s_field_Element_SetBytes)) {l : List Int} (hb : by8 l) (hl : l.length = 32) (v : List Int) : Pay T 40 [v, l] ∧ feR (fpI (leV l % 57896044618658097711785492504343953926634992332820282019728792003956564819968)) (gv T 40 0 [v, l]) := by
  match l, hl, hb with
  | [b0, b1, b2, b3, b4, b5, b6, b7, b8, b9, b10, b11, b12, b13, b14, b15, b16, b17, b18, b19, b20, b21, b22, b23, b24, b25, b26, b27, b28, b29, b30, b31], _, hb =>
    refine ⟨pay_one h trivial, ?_⟩
    rw [gv_one h, pr_sb]
    show feR _ (fixL 5 (i_field_Element_SetBytes.raw C_field_Element_SetBytes 0 [v, [b0, b1, b2, b3, b4, b5, b6, b7, b8, b9, b10, b11, b12, b13, b14, b15, b16, b17, b18, b19, b20, b21, b22, b23, b24, b25, b26, b27, b28, b29, b30, b31]]))
    rw [sb_raw]
    obtain ⟨h1, h2⟩ := sb_num hb
    rw [fixL_id h1.1]
    exact ⟨h1, by rw [h2]⟩
def M_pp : List (Nat × KF) := [(41, .sq), (43, .k 1), (42, .sub), (45, .k (feV dL)), (44, .mul), (46, .add), (47, .sqr)]
def ppH : List FX := [.not (sqF (decU (.v 0)) (decV (.v 0)))]
def ppQ (fsb : Nat) (M : List (Nat × KF)) (p : Pth) (es : Eqs) : Bool := match p.ds with
  | (n0, ⟨.fn f0 true 0, [.xs _, .vec 0]⟩) :: _ => Nat.beq f0 fsb && p.cs.isEmpty && p.ob.all (bkOb (tfF M) (othF ppH p.ds) (bkAll (tfF M) [(n0, [(5, .v 0)])] p.ds)) && isPart es 0 0 32 && isOneE p.K es 1
  | _ => false
theorem pp_gen {i : FnI} {C : Cx} {fsb : Nat} {M : List (Nat × KF)} {l : List Int} {y : Fp} (hp : 0 < i.s0.params.length) (hM : MF C.T M) (h : runC (ppQ fsb M) (i.tree C) C i.s0 i.rvs [none] = true) (hy : ∀ v, feR y (gv C.T fsb 0 [v, l])) (hx : ∃ x, OnC dE x y) (hl : l.length = 32) :
    evOb C.T (i.tree C) (insE [l]) ∧ i.raw C 0 [l] = l ∧ i.raw C 1 [l] = [1] := by
  obtain ⟨p, es, ρ, hr, hq⟩ := runC_ok h (ins := [l]) (fun j l' hj => by
    rcases j with _ | j
    · simp at hj
    · simp at hj)
  obtain ⟨hi, hK⟩ := hr.kn
  unfold ppQ at hq
  split at hq
  · rename_i n0 f0 v0 rest hds
    simp only [Bool.and_eq_true] at hq
    obtain ⟨⟨⟨⟨e1, e2⟩, e3⟩, e4⟩, e5⟩ := hq
    have e1 := Nat.eq_of_beq_eq_true e1
    subst e1
    have h0 : ρ 0 = l := hr.ar 0 hp
    have hd : ρ n0 = gv C.T f0 0 [v0.map (·.den ρ), l] := by
      have := hr.ds (n0, ⟨.fn f0 true 0, [.xs v0, .vec 0]⟩) (by rw [hds]; exact List.mem_cons_self)
      rw [show ρ n0 = _ from this, ← h0]; rfl
    let ρf : FV := ⟨fun _ => y, fun _ => false⟩
    have hS0 : BSOk (γF ρf) ρ [(n0, [(5, FX.v 0)])] := fun k bs hk => by
      simp only [lk] at hk
      cases hb : Nat.beq n0 k with
      | true =>
        rw [hb, cond_true, Option.some.injEq] at hk
        have := Nat.eq_of_beq_eq_true hb
        subst this; subst hk
        rw [hd]
        exact FX.c5 (.v 0) _ ρf rfl (hy _)
      | false => rw [hb] at hk; cases hk
    have hS := bkAll_ok (γF ρf) (tfF_ok hM ρf) hS0 hr.ds
    have hH : ∀ x ∈ ppH, x.bv ρf = false := fun x hx' => by
      rw [ppH, List.mem_singleton] at hx'
      subst hx'
      show (!(sqF (decU (.v 0)) (decV (.v 0))).bv ρf) = false
      rw [decF_ev]
      show (!(sqF (.v 0) (.v 1)).bv (FX.v2 (uY y) (vY y))) = false
      rw [decF_true hx]; rfl
    refine ⟨hr.ob (fun q hq => bkOb_ok (γF ρf) (tfF_ok hM ρf) (othF_ok hH p.ds) hr.ds hS (List.all_eq_true.1 e3 q hq)) (fun c hc => ?_), ?_, ?_⟩
    · rw [List.isEmpty_iff.1 e2] at hc; cases hc
    · have := isPart_ok e4 hp hr.ar hr.raw (by show 0 + 32 ≤ l.length; omega)
      rw [this]
      show (l.drop 0).take 32 = l
      rw [List.drop_zero, List.take_of_length_le (by omega)]
    · exact isOneE_ok e5 hK hr.raw
  · cases hq
theorem M_pp_ok : MF C_impl_ParsePublic.T M_pp := .cons (kf_sq rfl) (.cons (kf_feOne rfl) (.cons (kf_sub rfl) (.cons (kf_d rfl) (.cons (kf_mul rfl) (.cons (kf_add rfl) (.cons (kf_sqr rfl) .nil))))))
theorem t_pp : runC (ppQ 40 M_pp) (i_impl_ParsePublic.tree C_impl_ParsePublic) C_impl_ParsePublic i_impl_ParsePublic.s0 i_impl_ParsePublic.rvs [none] = true := by kernel_rfl

/-- the public key in a private key that was made from a seed: the bytes of a point -/
def kyQ (M : List (Nat × KW)) (fpb : Nat) (p : Pth) (es : Eqs) : Bool := match es with
  | (xs, _) :: _ => (match (xs.drop 32).take 32 with
    | .v nb 0 :: r => runOf (.v nb 0 :: r) nb 0 32 && Nat.beq xs.length 100 && (match lk nb p.ds with
      | some ⟨.fn f true 0, [a]⟩ => Nat.beq f fpb && (match parseA (bkAll (tfW M) [] p.ds) a with
        | some [.a 20 .r3] => true
        | _ => false)
      | _ => false)
    | _ => false)
  | _ => false
theorem ky_gen {i : FnI} {C : Cx} {fpb : Nat} {M : List (Nat × KW)} {v a : List Int} (hM : MW C.T M) (h : runC (kyQ M fpb) (i.tree C) C i.s0 i.rvs [none, none] = true) (hb : ∀ P l, R3 P l → (gv C.T fpb 0 [l]).length = 32) : ∃ P l, R3 P l ∧ ((i.raw C 0 [v, a]).drop 32).take 32 = gv C.T fpb 0 [l] ∧ (i.raw C 0 [v, a]).length = 100 := by
  obtain ⟨p, es, ρ, hr, hq⟩ := runC_ok h (ins := [v, a]) (fun j l' hj => by
    rcases j with _ | _ | j
    · simp at hj
    · simp at hj
    · simp at hj)
  have hS := bkAll_ok γW (tfW_ok hM) (s := []) (fun k bs hk => by simp [lk] at hk) hr.ds
  unfold kyQ at hq
  split at hq
  · rename_i xs F rest
    split at hq
    · rename_i nb r hx
      simp only [Bool.and_eq_true] at hq
      obtain ⟨⟨q1, q0⟩, q2⟩ := hq
      have q0 := Nat.eq_of_beq_eq_true q0
      split at q2
      · rename_i f ar hd
        simp only [Bool.and_eq_true] at q2
        obtain ⟨q3, q4⟩ := q2
        have e1 := Nat.eq_of_beq_eq_true q3
        subst e1
        split at q4
        · rename_i hpa
          obtain ⟨u, w, g1, g2, g3⟩ := parseA_ok γW hS hpa
          have hw : w = [] := g3
          rw [hw, List.append_nil] at g1
          obtain ⟨P, hP⟩ := g2.2
          have hn : ρ nb = gv C.T f 0 [u] := by
            rw [hr.df hd]
            show gv C.T f 0 [ar.den ρ] = _
            rw [g1]
          refine ⟨P, u, hP, ?_⟩
          have hlen := hb P u hP
          rw [hr.raw 0 _ rfl, ← List.map_drop, ← List.map_take, hx, runOf_ok q1 (by rw [hn]; omega), hn, List.drop_zero, List.take_of_length_le (by omega)]
          exact ⟨rfl, by rw [List.length_map, q0]⟩
        · cases q4
      · cases q2
    · cases hq
  · cases hq
theorem t_kyQ : runC (kyQ M_ky 39) (i_ed25519_newPrivateKeyFromSeed.tree C_ed25519_newPrivateKeyFromSeed) C_ed25519_newPrivateKeyFromSeed i_ed25519_newPrivateKeyFromSeed.s0 i_ed25519_newPrivateKeyFromSeed.rvs [none, none] = true := by kernel_rfl
/-- a public key: the bytes of a point -/
def PubOk (x : List Int) : Prop := by8 x ∧ x.length = 32 ∧ ∃ P : Pt, leV x = (P.y.val : Int) + (bif Nat.beq (P.x.val % 2) 1 then 57896044618658097711785492504343953926634992332820282019728792003956564819968 else 0)
theorem PubOk.y {x : List Int} (h : PubOk x) : ∃ y : Fp, (∃ x, OnC dE x y) ∧ fpI (leV x % 57896044618658097711785492504343953926634992332820282019728792003956564819968) = y := by
  obtain ⟨_, _, P, hP⟩ := h
  refine ⟨P.y, ⟨P.x, P.h⟩, ?_⟩
  have hlt := P.y.isLt
  have h2 : (PP : Nat) ≤ 57896044618658097711785492504343953926634992332820282019728792003956564819968 := by decide
  have e : leV x % 57896044618658097711785492504343953926634992332820282019728792003956564819968 = (P.y.val : Int) := by
    rw [hP]
    cases Nat.beq (P.x.val % 2) 1
    · simp only [cond_false]; omega
    · simp only [cond_true]; omega
  rw [e]
  apply Fin.ext
  show ((P.y.val : Int) % (P25519 : Int)).toNat = P.y.val
  have : (P25519 : Nat) = PP := rfl
  rw [this]
  have : (P.y.val : Int) < ((PP : Nat) : Int) := by exact_mod_cast hlt
  rw [Int.emod_eq_of_lt (Int.natCast_nonneg _) this, Int.toNat_natCast]
theorem pr_ky : s_ed25519_newPrivateKeyFromSeed.pr 0 = .l fun a => fixL 100 (i_ed25519_newPrivateKeyFromSeed.raw C_ed25519_newPrivateKeyFromSeed 0 a) := rfl
theorem ky_pub {T : Tb} (h : lk 24 T = some (.one s_ed25519_newPrivateKeyFromSeed)) (v a : List Int) : (gv T 24 0 [v, a]).length = 100 ∧ PubOk (((gv T 24 0 [v, a]).drop 32).take 32) := by
  obtain ⟨P, l, hP, h1, h2⟩ := ky_gen (v := v) (a := a) M_ky_ok t_kyQ (fun P l hP => (ptb_gv (T := C_ed25519_newPrivateKeyFromSeed.T) rfl hP).2.1)
  have e : gv T 24 0 [v, a] = i_ed25519_newPrivateKeyFromSeed.raw C_ed25519_newPrivateKeyFromSeed 0 [v, a] := by
    rw [gv_one h, pr_ky]
    exact fixL_id h2
  have hg := ptb_gv (T := C_ed25519_newPrivateKeyFromSeed.T) rfl hP
  rw [e, h1]
  exact ⟨h2, hg.1, hg.2.1, P, hg.2.2⟩
/-- the third of the lists that FromSeed tells is the public key -/
def fsQ (f0 : Nat) (p : Pth) (es : Eqs) : Bool := match es[2]? with
  | some (X.v n 32 :: r, _) => runOf (X.v n 32 :: r) n 32 32 && (match lk n p.ds with
    | some ⟨.fn f true 0, [.xs _, .vec 0]⟩ => Nat.beq f f0
    | _ => false)
  | _ => false
theorem fs_x2 {i : FnI} {C : Cx} {f0 : Nat} {xs : List Int} (hp : 0 < i.s0.params.length) (h : runC (fsQ f0) (i.tree C) C i.s0 i.rvs [none] = true) (hl : ∀ v, 64 ≤ (gv C.T f0 0 [v, xs]).length) : ∃ v, i.raw C 2 [xs] = ((gv C.T f0 0 [v, xs]).drop 32).take 32 := by
  obtain ⟨p, es, ρ, hr, hq⟩ := runC_ok h (ins := [xs]) noK
  unfold fsQ at hq
  split at hq
  · rename_i n r F he
    simp only [Bool.and_eq_true] at hq
    obtain ⟨q1, q2⟩ := hq
    split at q2
    · rename_i f v hd
      have e1 := Nat.eq_of_beq_eq_true q2
      subst e1
      have h0 : ρ 0 = xs := hr.ar 0 hp
      have hn : ρ n = gv C.T f 0 [v.map (·.den ρ), xs] := by
        rw [hr.df hd, ← h0]; rfl
      have := hl (v.map (·.den ρ))
      exact ⟨v.map (·.den ρ), by rw [hr.raw 2 _ he, runOf_ok q1 (by rw [hn]; omega), hn]⟩
    · cases q2
  · cases hq
theorem t_fsQ : runC (fsQ 24) (i_impl_FromSeed.tree C_impl_FromSeed) C_impl_FromSeed i_impl_FromSeed.s0 i_impl_FromSeed.rvs [none] = true := by kernel_rfl
theorem fs_gen2 {P : Program} {GB : Nat} {GC : Nat → Nat → Option Value} {f : Nat} {i : FnI} {C : Cx} {M : List (Nat × KW)} {z0 z1 z2 : PF} {g : PI} {b o c : Nat} {xs : List Int} {w : World} (h : FEOk P GB GC f (.one (i.sumP C))) (hM : MW C.T M) (ht : lawE M (i.tree C) C i.s0 i.rvs [none] [none] (fun K es => isOneE K es 3) = true)
    (hp : i.s0.params = [.sl (List.replicate 32 .u8) 0 false]) (hout : i.s0.outs = []) (hfr : i.s0.fresh = [(List.replicate 64 .u8, z0), (List.replicate 32 .u8, z1), (List.replicate 32 .u8, z2)]) (hret : i.s0.ret = [.slG 0 64, .slG 1 32, .slG 2 32, .bool g])
    (hgw : GW GC w) (hGB : GB ≤ w.heap.size) (hx : Has8 w b o xs) (hl : xs.length = 32) (hc : 32 ≤ c) : ∃ x0 x1, Calls P f #[.slice (some ⟨b, o, none⟩) 32 c] w (Told w x0 x1 (fixL 32 (i.raw C 2 [xs]))) := by
  have hh := law_e hM ht (ins := [xs]) noK (.no .nil)
  obtain ⟨ρ, es, K, hi, k1, k2, k3, k4⟩ := hh.2
  exact ⟨_, _, told_of h hp hout hfr hret hgw hGB hx hl hc hh.1 (isOneE_ok k3 k2 k4)⟩
/-- a list of bytes and a bool -/
structure Told1 (w : World) (x0 : List Int) (e : Ending) (w' : World) : Prop where
  ex : ∃ b0 o0 c0, e = .returned (.tuple #[.slice (some ⟨b0, o0, none⟩) 32 c0, .bool true]) ∧ 32 ≤ c0 ∧ Has8 w' b0 o0 x0 ∧ w.heap.size ≤ b0 ∧ x0.length = 32
  bl : Below w.heap.size w w'
theorem told1_of {P : Program} {GB : Nat} {GC : Nat → Nat → Option Value} {f : Nat} {i : FnI} {C : Cx} {z0 : PF} {g : PI} {b o c : Nat} {xs : List Int} {w : World} (h : FEOk P GB GC f (.one (i.sumP C))) (hp : i.s0.params = [.sl (List.replicate 32 .u8) 0 false]) (hout : i.s0.outs = [])
    (hfr : i.s0.fresh = [(List.replicate 32 .u8, z0)]) (hret : i.s0.ret = [.slG 0 32, .bool g])
    (hgw : GW GC w) (hGB : GB ≤ w.heap.size) (hx : Has8 w b o xs) (hl : xs.length = 32) (hc : 32 ≤ c) (hpre : evOb C.T (i.tree C) (insE [xs])) (h1 : i.raw C 1 [xs] = [1]) :
    Calls P f #[.slice (some ⟨b, o, none⟩) 32 c] w (Told1 w (fixL 32 (i.raw C 0 [xs]))) := by
  have hP : PMs GB w (i.sumP C).params [.slice (some ⟨b, o, none⟩) 32 c] [xs] [(b, o)] := by
    show PMs GB w i.s0.params _ _ _
    rw [hp]; exact ⟨hx.pm hl hc, trivial⟩
  have hS : PSeps (i.sumP C).params [(b, o)] := by
    show PSeps i.s0.params _
    rw [hp]; exact ⟨fun x hx => (by cases hx), trivial⟩
  refine (h true [.slice (some ⟨b, o, none⟩) 32 c] [xs] [(b, o)] w hgw hGB hP hS (fun _ => hpre) rfl).mono fun e w' ⟨fb, vs, he, hq⟩ => ?_
  simp only [FE.sel] at hq
  have ef : (i.sumP C).fresh = [(List.replicate 32 .u8, fun a => fixL 32 (i.raw C 0 a))] := by
    show withF (i.raw C) i.s0.outs.length i.s0.fresh = _
    rw [hout, hfr]; simp [withF]
  have er : (i.sumP C).ret = [.slG 0 32, .bool fun a => d1 (i.raw C 1 a)] := by
    show withR (i.raw C) (i.s0.outs.length + i.s0.fresh.length) i.s0.ret = _
    rw [hout, hfr, hret]; rfl
  have hr := hq.ret
  have hf := hq.fresh
  rw [er] at hr
  rw [ef] at hf
  match vs, hr with
  | [v0, v3], hr =>
  obtain ⟨⟨b0, c0, f0, g0, rfl⟩, hv3, _⟩ := hr
  have e3 : v3 = .bool true := by
    have : v3 = .bool (d1 (i.raw C 1 [xs]) != 0) := hv3
    rw [this, h1]; rfl
  subst e3
  exact ⟨⟨b0.1, b0.2, c0, he, g0, Has8.of_mem (hf 0 _ b0 rfl f0), hq.fr b0 (List.mem_of_getElem? f0), fixL_len _ _⟩,
    below_of hq.frm fun b o hs => by
      obtain ⟨p, hp', _⟩ := hs
      have : (i.sumP C).outs = [] := by
        show withO (i.raw C) 0 i.s0.outs = []
        rw [hout]; rfl
      rw [this] at hp'; cases hp'⟩
theorem pp_gen2 {P : Program} {GB : Nat} {GC : Nat → Nat → Option Value} {f fsb : Nat} {i : FnI} {C : Cx} {M : List (Nat × KF)} {z0 : PF} {g : PI} {b o c : Nat} {xs : List Int} {y : Fp} {w : World} (h : FEOk P GB GC f (.one (i.sumP C))) (hM : MF C.T M) (ht : runC (ppQ fsb M) (i.tree C) C i.s0 i.rvs [none] = true)
    (hp : i.s0.params = [.sl (List.replicate 32 .u8) 0 false]) (hout : i.s0.outs = []) (hfr : i.s0.fresh = [(List.replicate 32 .u8, z0)]) (hret : i.s0.ret = [.slG 0 32, .bool g]) (hy : ∀ v, feR y (gv C.T fsb 0 [v, xs])) (hox : ∃ x, OnC dE x y)
    (hgw : GW GC w) (hGB : GB ≤ w.heap.size) (hx : Has8 w b o xs) (hl : xs.length = 32) (hc : 32 ≤ c) : Calls P f #[.slice (some ⟨b, o, none⟩) 32 c] w (Told1 w xs) := by
  have hh := pp_gen (by rw [hp]; exact Nat.one_pos) hM ht hy hox hl
  have := told1_of h hp hout hfr hret hgw hGB hx hl hc hh.1 hh.2.2
  rw [hh.2.1, fixL_id hl] at this
  exact this
section
variable {GB : Nat} {GC : Nat → Nat → Option Value} {ad : Nat → Nat × Nat} (hG : GOk GB GC ad)
include hG
theorem fs_pub {w : World} {b o c : Nat} {xs : List Int} (hgw : GW GC w) (hGB : GB ≤ w.heap.size) (hx : Has8 w b o xs) (hl : xs.length = 32) (hc : 32 ≤ c) : ∃ x0 x1 x2, PubOk x2 ∧ Calls Tryz.prog 8 #[.slice (some ⟨b, o, none⟩) 32 c] w (Told w x0 x1 x2) := by
  obtain ⟨x0, x1, h⟩ := fs_gen2 (i := i_impl_FromSeed) (C := C_impl_FromSeed) (ok_impl_FromSeed hG) M_frs_ok t_frs rfl rfl rfl rfl hgw hGB hx hl hc
  obtain ⟨v, hv⟩ := fs_x2 (i := i_impl_FromSeed) (C := C_impl_FromSeed) (xs := xs) (by decide) t_fsQ (fun v => by rw [(ky_pub (T := C_impl_FromSeed.T) rfl v xs).1]; omega)
  have hk := (ky_pub (T := C_impl_FromSeed.T) rfl v xs).2
  rw [← hv] at hk
  rw [fixL_id hk.2.1] at h
  exact ⟨x0, x1, _, hk, h⟩
theorem pp_32 {w : World} {b o c : Nat} {xs : List Int} (hgw : GW GC w) (hGB : GB ≤ w.heap.size) (hx : Has8 w b o xs) (hpk : PubOk xs) (hc : 32 ≤ c) : Calls Tryz.prog 9 #[.slice (some ⟨b, o, none⟩) 32 c] w (Told1 w xs) := by
  obtain ⟨y, hox, hy⟩ := hpk.y
  exact pp_gen2 (i := i_impl_ParsePublic) (C := C_impl_ParsePublic) (ok_impl_ParsePublic hG) M_pp_ok t_pp rfl rfl rfl rfl (fun v => by rw [← hy]; exact (sb_gv (T := C_impl_ParsePublic.T) rfl hpk.1 hpk.2.1 v).2) hox hgw hGB hx hpk.2.1 hc
end
end Go.Proofs.YtdcmnkbegcebgaaGreatDoor
