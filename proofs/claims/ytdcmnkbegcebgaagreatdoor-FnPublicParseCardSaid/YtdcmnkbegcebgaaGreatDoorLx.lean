/- Contracts in the kit's words: keys told of 32 and of 64 bytes; two lists of bytes compared. -/
import Derived.Test.YtdcmnkbegcebgaaGreatDoorDb9
import Derived.Test.YtdcmnkbegcebgaaGreatDoorLb
import Derived.WalkKit
import Derived.Laws.IdiomStrings
namespace Go.Proofs.YtdcmnkbegcebgaaGreatDoor
open Go Ma Go.RowKit

/-! ### bytes in memory -/
def Has8 (w : World) (b o : Nat) (xs : List Int) : Prop := (∀ x ∈ xs, 0 ≤ x ∧ x ≤ 255) ∧ ∀ i, i < xs.length → w.cell? ⟨b, o + i, none⟩ = some (.int .u8 (xs.getD i 0))
theorem Has8.below {w w' : World} {B b o : Nat} {xs : List Int} (h : Has8 w b o xs) (hb : Below B w w') (hl : b < B) : Has8 w' b o xs :=
  ⟨h.1, fun i hi => by rw [← h.2 i hi]; exact hb.cell (p := ⟨b, o + i, none⟩) hl⟩
theorem Has8.lt {w : World} {b o : Nat} {xs : List Int} (h : Has8 w b o xs) (h0 : 0 < xs.length) : b < w.heap.size := by
  have := h.2 0 h0
  rcases Nat.lt_or_ge b w.heap.size with h1 | h1
  · exact h1
  · simp [World.cell?, Array.getElem?_eq_none h1] at this
theorem Has8.of_mem {w : World} {b : Nat × Nat} {n : Nat} {xs : List Int} (h : MemI true w b (List.replicate n .u8) xs) : Has8 w b.1 b.2 xs := by
  obtain ⟨⟨h1, h2⟩, h3⟩ := h
  rw [List.length_replicate] at h1
  have hk : ∀ i, i < n → (List.replicate n IntKind.u8)[i]? = some .u8 := fun i hi => by simp [hi]
  refine ⟨fun x hx => ?_, fun i hi => ?_⟩
  · obtain ⟨i, hi, rfl⟩ := List.getElem_of_mem hx
    exact h2 i .u8 _ (hk i (by omega)) (List.getElem?_eq_getElem hi)
  · have := (h3 i .u8 _ (hk i (by omega)) (List.getElem?_eq_getElem hi)).1
    rw [show xs.getD i 0 = xs[i] by simp [List.getD, hi]]
    exact this
theorem Has8.pm {GB : Nat} {w : World} {b o n c g : Nat} {xs : List Int} (h : Has8 w b o xs) (hl : xs.length = n) (hc : n ≤ c) : PM GB w (.sl (List.replicate n .u8) g false) (.slice (some ⟨b, o, none⟩) n c) xs (b, o) :=
  pm_u8 hl hc h.1 fun i hi => h.2 i (by omega)
theorem gw_below {GB B : Nat} {GC : Nat → Nat → Option Value} {ad : Nat → Nat × Nat} (hG : GOk GB GC ad) {w w' : World} (h : GW GC w) (hb : Below B w w') (hB : GB ≤ B) : GW GC w' := fun b o v hv => by
  rw [← h b o v hv]
  exact hb.cell (p := ⟨b, o, none⟩) (Nat.lt_of_lt_of_le (hG.lt b o v hv) hB)
/-- the bytes of a string -/
def toB (xs : List Int) : List UInt8 := xs.map fun x => UInt8.ofNat x.toNat
theorem Has8.str {P : Program} {w : World} {b o n c src dst e : Nat} {xs : List Int} (h : Has8 w b o xs) (hl : xs.length = n) (hs : P.underlying src = some (.slice e)) (he : P.underlying e = some (.int .u8)) (hd : P.underlying dst = some .string) :
    (convert src dst (.slice (some ⟨b, o, none⟩) n c)).run P w = .ok (.string ⟨(toB xs).toArray⟩) w := by
  have := run_convert_bytes_back (P := P) w src dst e ⟨b, o, none⟩ c (toB xs) hs he hd (fun j hj => by
    have hj' : j < xs.length := by simpa [toB] using hj
    rw [Addr.add_lit, h.2 j hj']
    have hx := h.1 xs[j] (List.getElem_mem hj')
    have e1 : xs.getD j 0 = xs[j] := by simp [List.getD, hj']
    rw [e1]
    simp only [toB, List.getElem_map]
    congr 2
    simp only [UInt8.toNat_ofNat']
    omega)
  rw [show (toB xs).length = n by simp [toB, hl]] at this
  exact this

/-! ### what a walk without branches gives -/
def lawE (M : List (Nat × KW)) (tr : Tree) (C : Cx) (s0 : FSum) (rvs : List ResultVar) (kin : List (Option (List Int))) (bin : List (Option (List (Nat × WX)))) (q : KS → Eqs → Bool) : Bool :=
  match linK (kIn 0 kin) tr with
  | some p => linKOk s0.params.length (kIn 0 kin) tr && Nat.beq bin.length s0.params.length && Nat.beq kin.length s0.params.length && p.cs.isEmpty && p.ob.all (bkOb (tfW M) (noO p.ds) (bkAll (tfW M) (bkIn 0 bin) p.ds)) &&
    (match leafE C s0 rvs p.st with
    | some es => q p.K es
    | none => false)
  | none => false
/-- the leaf's equations, at the values -/
def LeafAt (i : FnI) (C : Cx) (ins : List (List Int)) (q : KS → Eqs → Bool) : Prop :=
  ∃ (ρ : Env) (es : Eqs) (K : KS) (hi : Nat), (∀ j, j < i.s0.params.length → ρ j = ins.getD j []) ∧ KOk hi ρ K ∧ q K es = true ∧ ∀ (k : Nat) e, es[k]? = some e → i.raw C k ins = e.1.map (·.den ρ)
theorem law_e {M : List (Nat × KW)} {i : FnI} {C : Cx} {kin : List (Option (List Int))} {bin : List (Option (List (Nat × WX)))} {q : KS → Eqs → Bool} (hM : MW C.T M) (h : lawE M (i.tree C) C i.s0 i.rvs kin bin q = true) {ins : List (List Int)}
    (hk : ∀ (j : Nat) (l : List Int), kin[j]? = some (some l) → ins.getD j [] = l) (hin : InB γW bin ins) : evOb C.T (i.tree C) (insE ins) ∧ LeafAt i C ins q := by
  unfold lawE at h
  split at h
  · rename_i p hl
    simp only [Bool.and_eq_true] at h
    obtain ⟨⟨⟨⟨⟨h1, h2⟩, h3⟩, h4⟩, h5⟩, h6⟩ := h
    have hlen := Nat.eq_of_beq_eq_true h2
    have hlen2 := Nat.eq_of_beq_eq_true h3
    have hK0 : KOk i.s0.params.length (insE ins) (kIn 0 kin) := fun j l hj => by
      obtain ⟨k, e1, e2⟩ := kIn_get hj
      rw [Nat.zero_add] at e1
      subst e1
      have hlt : j < kin.length := (List.getElem?_eq_some_iff.1 e2).1
      exact ⟨by omega, hk j l e2⟩
    obtain ⟨k1, k2, k3, k4, ⟨hi, k5⟩, k6⟩ := linK_ok (T := C.T) (np := i.s0.params.length) (ρ0 := insE ins) (ρ := insE ins) (Nat.le_refl _) (AgE.refl _ _) hK0 h1 hl
    have hρ : ∀ j, j < i.s0.params.length → upds C.T (insE ins) p.ds j = ins.getD j [] := fun j hj => by rw [k1 j hj]; rfl
    have hin2 : BSOk γW (upds C.T (insE ins) p.ds) (bkIn 0 bin) := fun j bs hj => by
      obtain ⟨k, e1, e2⟩ := bkIn_get hj
      rw [Nat.zero_add] at e1
      subst e1
      have hlt : j < bin.length := (List.getElem?_eq_some_iff.1 e2).1
      rw [hρ j (by omega)]
      exact hin.get j bs e2
    have hS := bkAll_ok γW (tfW_ok hM) hin2 k2
    refine ⟨k6 (fun q hq => bkOb_ok γW (tfW_ok hM) (noO_ok p.ds) k2 hS (List.all_eq_true.1 h5 q hq)) (fun c hc => ?_), ?_⟩
    · have := List.isEmpty_iff.1 h4
      rw [this] at hc; cases hc
    · split at h6
      · rename_i es hes
        refine ⟨_, es, p.K, hi, hρ, k5, h6, fun k e he => ?_⟩
        unfold FnI.raw rawT
        rw [k4]
        simp only [hes, he]
      · cases h6
  · cases h
/-- a result that is a part of the first parameter; a result that is 1 -/
def isPart (es : Eqs) (k off n : Nat) : Bool := match es[k]? with
  | some (xs, _) => isRun 0 off xs && Nat.beq xs.length n
  | none => false
def isOneE (K : KS) (es : Eqs) (k : Nat) : Bool := match es[k]? with
  | some (xs, _) => (match kXs K xs with
    | some [.ofNat 1] => true
    | _ => false)
  | none => false
theorem isPart_ok {i : FnI} {C : Cx} {ins : List (List Int)} {es : Eqs} {ρ : Env} {k off n : Nat} (h : isPart es k off n = true) (h0 : 0 < i.s0.params.length) (hρ : ∀ j, j < i.s0.params.length → ρ j = ins.getD j []) (hr : ∀ (k : Nat) e, es[k]? = some e → i.raw C k ins = e.1.map (·.den ρ))
    (hl : off + n ≤ (ins.getD 0 []).length) : i.raw C k ins = ((ins.getD 0 []).drop off).take n := by
  unfold isPart at h
  split at h
  · rename_i xs f he
    simp only [Bool.and_eq_true] at h
    have hn := Nat.eq_of_beq_eq_true h.2
    rw [hr k _ he, run_den h.1, hn, hρ 0 h0]
    generalize ins.getD 0 [] = l at hl ⊢
    apply List.ext_getElem?
    intro j
    by_cases hj : j < n
    · have hj2 : off + j < l.length := by omega
      simp [hj, List.getD, hj2]
    · rw [List.getElem?_eq_none (by simp; omega), List.getElem?_eq_none (by simp; omega)]
  · cases h
theorem isOneE_ok {i : FnI} {C : Cx} {ins : List (List Int)} {es : Eqs} {ρ : Env} {K : KS} {hi k : Nat} (h : isOneE K es k = true) (hK : KOk hi ρ K) (hr : ∀ (k : Nat) e, es[k]? = some e → i.raw C k ins = e.1.map (·.den ρ)) : i.raw C k ins = [1] := by
  unfold isOneE at h
  split at h
  · rename_i xs f he
    split at h
    · rename_i hx
      rw [hr k _ he, kXs_ok hK hx]; rfl
    · cases h
  · cases h

/-! ### a key, told: three lists of bytes and a bool -/
structure Told (w : World) (x0 x1 x2 : List Int) (e : Ending) (w' : World) : Prop where
  ex : ∃ b0 o0 c0 b1 o1 c1 b2 o2 c2, e = .returned (.tuple #[.slice (some ⟨b0, o0, none⟩) 64 c0, .slice (some ⟨b1, o1, none⟩) 32 c1, .slice (some ⟨b2, o2, none⟩) 32 c2, .bool true]) ∧ 64 ≤ c0 ∧ 32 ≤ c1 ∧ 32 ≤ c2 ∧
    Has8 w' b0 o0 x0 ∧ Has8 w' b1 o1 x1 ∧ Has8 w' b2 o2 x2 ∧ w.heap.size ≤ b0 ∧ w.heap.size ≤ b1 ∧ w.heap.size ≤ b2 ∧ x0.length = 64 ∧ x1.length = 32 ∧ x2.length = 32
  bl : Below w.heap.size w w'
theorem told_of {P : Program} {GB : Nat} {GC : Nat → Nat → Option Value} {f n : Nat} {i : FnI} {C : Cx} {z0 z1 z2 : PF} {g : PI} {b o c : Nat} {xs : List Int} {w : World} (h : FEOk P GB GC f (.one (i.sumP C))) (hp : i.s0.params = [.sl (List.replicate n .u8) 0 false]) (hout : i.s0.outs = [])
    (hfr : i.s0.fresh = [(List.replicate 64 .u8, z0), (List.replicate 32 .u8, z1), (List.replicate 32 .u8, z2)]) (hret : i.s0.ret = [.slG 0 64, .slG 1 32, .slG 2 32, .bool g])
    (hgw : GW GC w) (hGB : GB ≤ w.heap.size) (hx : Has8 w b o xs) (hl : xs.length = n) (hc : n ≤ c) (hpre : evOb C.T (i.tree C) (insE [xs])) (h1 : i.raw C 3 [xs] = [1]) :
    Calls P f #[.slice (some ⟨b, o, none⟩) n c] w (Told w (fixL 64 (i.raw C 0 [xs])) (fixL 32 (i.raw C 1 [xs])) (fixL 32 (i.raw C 2 [xs]))) := by
  have hP : PMs GB w (i.sumP C).params [.slice (some ⟨b, o, none⟩) n c] [xs] [(b, o)] := by
    show PMs GB w i.s0.params _ _ _
    rw [hp]; exact ⟨hx.pm hl hc, trivial⟩
  have hS : PSeps (i.sumP C).params [(b, o)] := by
    show PSeps i.s0.params _
    rw [hp]; exact ⟨fun x hx => (by cases hx), trivial⟩
  refine (h true [.slice (some ⟨b, o, none⟩) n c] [xs] [(b, o)] w hgw hGB hP hS (fun _ => hpre) rfl).mono fun e w' ⟨fb, vs, he, hq⟩ => ?_
  simp only [FE.sel] at hq
  have ef : (i.sumP C).fresh = [(List.replicate 64 .u8, fun a => fixL 64 (i.raw C 0 a)), (List.replicate 32 .u8, fun a => fixL 32 (i.raw C 1 a)), (List.replicate 32 .u8, fun a => fixL 32 (i.raw C 2 a))] := by
    show withF (i.raw C) i.s0.outs.length i.s0.fresh = _
    rw [hout, hfr]; simp [withF]
  have er : (i.sumP C).ret = [.slG 0 64, .slG 1 32, .slG 2 32, .bool fun a => d1 (i.raw C 3 a)] := by
    show withR (i.raw C) (i.s0.outs.length + i.s0.fresh.length) i.s0.ret = _
    rw [hout, hfr, hret]; rfl
  have hr := hq.ret
  have hf := hq.fresh
  rw [er] at hr
  rw [ef] at hf
  match vs, hr with
  | [v0, v1, v2, v3], hr =>
  obtain ⟨⟨b0, c0, f0, g0, rfl⟩, ⟨b1, c1, f1, g1, rfl⟩, ⟨b2, c2, f2, g2, rfl⟩, hv3, _⟩ := hr
  have e3 : v3 = .bool true := by
    have : v3 = .bool (d1 (i.raw C 3 [xs]) != 0) := hv3
    rw [this, h1]; rfl
  subst e3
  exact ⟨⟨b0.1, b0.2, c0, b1.1, b1.2, c1, b2.1, b2.2, c2, he, g0, g1, g2, Has8.of_mem (hf 0 _ b0 rfl f0), Has8.of_mem (hf 1 _ b1 rfl f1), Has8.of_mem (hf 2 _ b2 rfl f2), hq.fr b0 (List.mem_of_getElem? f0), hq.fr b1 (List.mem_of_getElem? f1), hq.fr b2 (List.mem_of_getElem? f2), fixL_len _ _, fixL_len _ _, fixL_len _ _⟩,
    below_of hq.frm fun b o hs => by
      obtain ⟨p, hp', _⟩ := hs
      have : (i.sumP C).outs = [] := by
        show withO (i.raw C) 0 i.s0.outs = []
        rw [hout]; rfl
      rw [this] at hp'; cases hp'⟩

section
variable {GB : Nat} {GC : Nat → Nat → Option Value} {ad : Nat → Nat × Nat} (hG : GOk GB GC ad)
include hG
omit hG in
theorem M_frs_ok : MW C_impl_FromSeed.T [(24, .an2 100)] := .cons (kw_ky rfl) .nil
omit hG in
theorem t_frs : lawE [(24, .an2 100)] (i_impl_FromSeed.tree C_impl_FromSeed) C_impl_FromSeed i_impl_FromSeed.s0 i_impl_FromSeed.rvs [none] [none] (fun K es => isOneE K es 3) = true := by kernel_rfl
omit hG in
theorem M_frp_ok : MW C_impl_FromPrivate.T M_kz := .cons (kw_bp64 rfl) (.cons (kw_bp56 rfl) (.cons (kw_bp48 rfl) (.cons (kw_bp40 rfl) (.cons (kw_bp32 rfl) (.cons (kw_bp24 rfl) (.cons (kw_bp16 rfl) (.cons (kw_bp8 rfl) (.cons (kw_blk rfl) (.cons (kw_cl rfl) .nil)))))))))
omit hG in
theorem t_frp : lawE M_kz (i_impl_FromPrivate.tree C_impl_FromPrivate) C_impl_FromPrivate i_impl_FromPrivate.s0 i_impl_FromPrivate.rvs [none] [none] (fun K es => isOneE K es 3 && isPart es 0 0 64 && isPart es 1 0 32 && isPart es 2 32 32) = true := by kernel_rfl
end
theorem noK {xs : List Int} : ∀ (j : Nat) (l : List Int), ([none] : List (Option (List Int)))[j]? = some (some l) → ([xs] : List (List Int)).getD j [] = l := fun j l h => by
  rcases j with _ | j
  · simp at h
  · simp at h
theorem fs_gen {P : Program} {GB : Nat} {GC : Nat → Nat → Option Value} {f : Nat} {i : FnI} {C : Cx} {M : List (Nat × KW)} {z0 z1 z2 : PF} {g : PI} {b o c : Nat} {xs : List Int} {w : World} (h : FEOk P GB GC f (.one (i.sumP C))) (hM : MW C.T M) (ht : lawE M (i.tree C) C i.s0 i.rvs [none] [none] (fun K es => isOneE K es 3) = true)
    (hp : i.s0.params = [.sl (List.replicate 32 .u8) 0 false]) (hout : i.s0.outs = []) (hfr : i.s0.fresh = [(List.replicate 64 .u8, z0), (List.replicate 32 .u8, z1), (List.replicate 32 .u8, z2)]) (hret : i.s0.ret = [.slG 0 64, .slG 1 32, .slG 2 32, .bool g])
    (hgw : GW GC w) (hGB : GB ≤ w.heap.size) (hx : Has8 w b o xs) (hl : xs.length = 32) (hc : 32 ≤ c) : ∃ x0 x1 x2, Calls P f #[.slice (some ⟨b, o, none⟩) 32 c] w (Told w x0 x1 x2) := by
  have hh := law_e hM ht (ins := [xs]) noK (.no .nil)
  obtain ⟨ρ, es, K, hi, k1, k2, k3, k4⟩ := hh.2
  exact ⟨_, _, _, told_of h hp hout hfr hret hgw hGB hx hl hc hh.1 (isOneE_ok k3 k2 k4)⟩
theorem fp_gen {P : Program} {GB : Nat} {GC : Nat → Nat → Option Value} {f : Nat} {i : FnI} {C : Cx} {M : List (Nat × KW)} {z0 z1 z2 : PF} {g : PI} {b o c : Nat} {xs : List Int} {w : World} (h : FEOk P GB GC f (.one (i.sumP C))) (hM : MW C.T M)
    (ht : lawE M (i.tree C) C i.s0 i.rvs [none] [none] (fun K es => isOneE K es 3 && isPart es 0 0 64 && isPart es 1 0 32 && isPart es 2 32 32) = true)
    (hp : i.s0.params = [.sl (List.replicate 64 .u8) 0 false]) (hout : i.s0.outs = []) (hfr : i.s0.fresh = [(List.replicate 64 .u8, z0), (List.replicate 32 .u8, z1), (List.replicate 32 .u8, z2)]) (hret : i.s0.ret = [.slG 0 64, .slG 1 32, .slG 2 32, .bool g])
    (hgw : GW GC w) (hGB : GB ≤ w.heap.size) (hx : Has8 w b o xs) (hl : xs.length = 64) (hc : 64 ≤ c) : Calls P f #[.slice (some ⟨b, o, none⟩) 64 c] w (Told w xs (xs.take 32) (xs.drop 32)) := by
  have hh := law_e hM ht (ins := [xs]) noK (.no .nil)
  obtain ⟨ρ, es, K, hi, k1, k2, k3, k4⟩ := hh.2
  simp only [Bool.and_eq_true] at k3
  have h0 : 0 < i.s0.params.length := by rw [hp]; exact Nat.one_pos
  have p0 := isPart_ok k3.1.1.2 h0 k1 k4 (by show 0 + 64 ≤ xs.length; omega)
  have p1 := isPart_ok k3.1.2 h0 k1 k4 (by show 0 + 32 ≤ xs.length; omega)
  have p2 := isPart_ok k3.2 h0 k1 k4 (by show 32 + 32 ≤ xs.length; omega)
  have := told_of h hp hout hfr hret hgw hGB hx hl hc hh.1 (isOneE_ok k3.1.1.1 k2 k4)
  have e : ([xs] : List (List Int)).getD 0 [] = xs := rfl
  rw [p0, p1, p2, e, List.drop_zero, fixL_id (by simp [hl]), fixL_id (by simp [hl]), fixL_id (by simp [hl]), List.take_of_length_le (by omega), show (xs.drop 32).take 32 = xs.drop 32 from List.take_of_length_le (by simp [hl])] at this
  exact this
section
variable {GB : Nat} {GC : Nat → Nat → Option Value} {ad : Nat → Nat × Nat} (hG : GOk GB GC ad)
include hG
theorem fs_32 {w : World} {b o c : Nat} {xs : List Int} (hgw : GW GC w) (hGB : GB ≤ w.heap.size) (hx : Has8 w b o xs) (hl : xs.length = 32) (hc : 32 ≤ c) : ∃ x0 x1 x2, Calls Tryz.prog 8 #[.slice (some ⟨b, o, none⟩) 32 c] w (Told w x0 x1 x2) :=
  fs_gen (i := i_impl_FromSeed) (C := C_impl_FromSeed) (ok_impl_FromSeed hG) M_frs_ok t_frs rfl rfl rfl rfl hgw hGB hx hl hc
theorem fp_64 {w : World} {b o c : Nat} {xs : List Int} (hgw : GW GC w) (hGB : GB ≤ w.heap.size) (hx : Has8 w b o xs) (hl : xs.length = 64) (hc : 64 ≤ c) : Calls Tryz.prog 11 #[.slice (some ⟨b, o, none⟩) 64 c] w (Told w xs (xs.take 32) (xs.drop 32)) :=
  fp_gen (i := i_impl_FromPrivate) (C := C_impl_FromPrivate) (ok_impl_FromPrivate hG) M_frp_ok t_frp rfl rfl rfl rfl hgw hGB hx hl hc
end
/-- two lists of bytes that are one -/
theorem same_any (w : World) {b1 o1 n1 c1 b2 o2 n2 c2 : Nat} {xs : List Int} (h1 : Has8 w b1 o1 xs) (h2 : Has8 w b2 o2 xs) (l1 : xs.length = n1) (l2 : xs.length = n2) :
    Calls Tryz.prog 10 #[.slice (some ⟨b1, o1, none⟩) n1 c1, .slice (some ⟨b2, o2, none⟩) n2 c2] w fun e w' => e = .returned (.bool true) ∧ w = w' := by
  have q1 := h1.str (c := c1) l1 Tryz.underlying22 Tryz.underlying5 Tryz.underlying9
  have q2 := h2.str (c := c2) l2 Tryz.underlying22 Tryz.underlying5 Tryz.underlying9
  clear h1 h2 l1 l2
  go_enter Tryz.func10, Tryz.ntmps10
  go_wp2
  all_goals go_ret
  all_goals exact ⟨rfl, rfl⟩
end Go.Proofs.YtdcmnkbegcebgaaGreatDoor
