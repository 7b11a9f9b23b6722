/- A walk's path: its definitions at the values, its debts, its leaf. Two walks that compute the same. -/
import Derived.Test.YtloibefkijfdlaaGreatDoorBc
namespace Go.Proofs.YtloibefkijfdlaaGreatDoor
open Go
structure Run (i : FnI) (C : Cx) (ins : List (List Int)) (p : Pth) (es : Eqs) (ρ : Env) : Prop where
 ar : ∀ j, j < i.s0.params.length → ρ j = ins.getD j []
 ds : DsE C.T ρ p.ds
 raw : ∀ (k : Nat) e, es[k]? = some e → i.raw C k ins = e.1.map (·.den ρ)
 ob : (∀ q ∈ p.ob, q.den C.T ρ) → (∀ c ∈ p.cs, ∀ ρ', AgE i.s0.params.length (insE ins) ρ' → evOb C.T c ρ') → evOb C.T (i.tree C) (insE ins)
 kn : ∃ hi, KOk hi ρ p.K
def runC (q : Pth → Eqs → Bool) (tr : Tree) (C : Cx) (s0 : FSum) (rvs : List ResultVar) (kin : List (Option (List Int))) : Bool :=
 match linK (kIn 0 kin) tr with
 | some p => linKOk s0.params.length (kIn 0 kin) tr && Nat.beq kin.length s0.params.length &&
  (match leafE C s0 rvs p.st with
  | some es => q p es
  | none => false)
 | none => false
theorem runC_ok {q : Pth → Eqs → Bool} {i : FnI} {C : Cx} {kin : List (Option (List Int))} (h : runC q (i.tree C) C i.s0 i.rvs kin = true) {ins : List (List Int)} (hk : ∀ (j : Nat) (l : List Int), kin[j]? = some (some l) → ins.getD j [] = l) :
  ∃ p es ρ, Run i C ins p es ρ ∧ q p es = true := by
 unfold runC at h
 split at h
 ·rename_i p hl
  simp only [baE] at h
  obtain ⟨⟨h1, h3⟩, h6⟩ := h
  have hlen2 := nbE h3
  have hK0 : KOk i.s0.params.length (insE ins) (kIn 0 kin) := fun j l hj => by
   obtain ⟨k, e1, e2⟩ := kIn_get hj
   rw [Nat.zero_add] at e1
   subst e1
   have hlt : j < kin.length := (List.getElem?_eq_some_iff.1 e2).1
   exact ⟨by omega, hk j l e2⟩
  obtain ⟨k1, k2, k3, k4, k5, k6⟩ := linK_ok (T := C.T) (np := i.s0.params.length) (ρ0 := insE ins) (ρ := insE ins) (Nat.le_refl _) (AgE.refl _ _) hK0 h1 hl
  split at h6
  ·rename_i es hes
   refine ⟨p, es, upds C.T (insE ins) p.ds, ⟨fun j hj => by rw [k1 j hj]; rfl, k2, fun k e he => ?_, k6, k5⟩, h6⟩
   unfold FnI.raw rawT
   rw [k4]
   simp only [hes, he]
  ·cases h6
 ·cases h
theorem Run.df {i : FnI} {C : Cx} {ins : List (List Int)} {p : Pth} {es : Eqs} {ρ : Env} (h : Run i C ins p es ρ) {n : Nat} {d : Def} (hd : lk n p.ds = some d) : ρ n = d.den C.T ρ := h.ds (n, d) (lk_mem hd)
end Go.Proofs.YtloibefkijfdlaaGreatDoor

namespace Go.Proofs.YtloibefkijfdlaaGreatDoor
open Go
structure Sim where
 pm : List (List X)
 nm : List (Nat × Nat)
def trX (s : Sim) : X → Option X
 | .lit c => some (.lit c)
 | .v i k => (match s.pm[i]? with
  | some l => l[k]?
  | none => (match lk i s.nm with
   | some m => some (.v m k)
   | none => none))
def trXs (s : Sim) : List X → Option (List X)
 | [] => some []
 | x :: r => (match trX s x, trXs s r with
  | some y, some l => some (y :: l)
  | _, _ => none)
def trA (s : Sim) : Arg → Option Arg
 | .xs l => (match trXs s l with
  | some l' => some (.xs l')
  | none => none)
 | .vec j => (match s.pm[j]? with
  | some l => some (.xs l)
  | none => (match lk j s.nm with
   | some m => some (.vec m)
   | none => none))
def trAs (s : Sim) : List Arg → Option (List Arg)
 | [] => some []
 | x :: r => (match trA s x, trAs s r with
  | some y, some l => some (y :: l)
  | _, _ => none)
def opOk (F : List Nat) : DOp → Bool
 | .fn f _ _ => hasN f F
 | _ => true
def findD (d : Def) : List (Nat × Def) → Option Nat
 | [] => none
 | (n, e) :: r => bif e.beq d then some n else findD d r
def simDs (F : List Nat) (ds1 : List (Nat × Def)) (pm : List (List X)) : List (Nat × Nat) → List (Nat × Def) → List (Nat × Nat)
 | nm, [] => nm
 | nm, (n, d) :: r => (match trAs ⟨pm, nm⟩ d.args with
  | some as => bif opOk F d.op then (match findD ⟨d.op, as⟩ ds1 with
   | some m => simDs F ds1 pm ((n, m) :: nm) r
   | none => simDs F ds1 pm nm r) else simDs F ds1 pm nm r
  | none => simDs F ds1 pm nm r)
structure SimOk (s : Sim) (ρ1 ρ2 : Env) : Prop where
 pm : ∀ (i : Nat) (l : List X), s.pm[i]? = some l → ρ2 i = l.map (·.den ρ1)
 nm : ∀ (n m : Nat), lk n s.nm = some m → ρ2 n = ρ1 m
theorem trX_ok {s : Sim} {ρ1 ρ2 : Env} (h : SimOk s ρ1 ρ2) {x y : X} (hx : trX s x = some y) : x.den ρ2 = y.den ρ1 := by
 cases x with
 | lit c => simp only [trX, osE] at hx; subst hx; rfl
 | v i k =>
  simp only [trX] at hx
  split at hx
  ·rename_i l hl
   show (ρ2 i).getD k 0 = _
   rw [h.pm i l hl, List.getD, List.getElem?_map, hx]; rfl
  ·split at hx
   ·rename_i m hm
    simp only [osE] at hx
    subst hx
    show (ρ2 i).getD k 0 = (ρ1 m).getD k 0
    rw [h.nm i m hm]
   ·cases hx
theorem trXs_ok {s : Sim} {ρ1 ρ2 : Env} (h : SimOk s ρ1 ρ2) : ∀ {xs ys : List X}, trXs s xs = some ys → xs.map (·.den ρ2) = ys.map (·.den ρ1)
 | [], ys, hx => by simp only [trXs, osE] at hx; subst hx; rfl
 | x :: r, ys, hx => by
  unfold trXs at hx
  split at hx
  ·rename_i y l h1 h2
   simp only [osE] at hx; subst hx
   rw [List.map_cons, List.map_cons, trX_ok h h1, trXs_ok h h2]
  ·cases hx
theorem trA_ok {s : Sim} {ρ1 ρ2 : Env} (h : SimOk s ρ1 ρ2) {a b : Arg} (hx : trA s a = some b) : a.den ρ2 = b.den ρ1 := by
 cases a with
 | xs l =>
  simp only [trA] at hx
  split at hx
  ·rename_i l' hl
   simp only [osE] at hx; subst hx
   exact trXs_ok h hl
  ·cases hx
 | vec j =>
  simp only [trA] at hx
  split at hx
  ·rename_i l hl
   simp only [osE] at hx; subst hx
   exact h.pm j l hl
  ·split at hx
   ·rename_i m hm
    simp only [osE] at hx; subst hx
    exact h.nm j m hm
   ·cases hx
theorem trAs_ok {s : Sim} {ρ1 ρ2 : Env} (h : SimOk s ρ1 ρ2) : ∀ {xs ys : List Arg}, trAs s xs = some ys → xs.map (·.den ρ2) = ys.map (·.den ρ1)
 | [], ys, hx => by simp only [trAs, osE] at hx; subst hx; rfl
 | x :: r, ys, hx => by
  unfold trAs at hx
  split at hx
  ·rename_i y l h1 h2
   simp only [osE] at hx; subst hx
   rw [List.map_cons, List.map_cons, trA_ok h h1, trAs_ok h h2]
  ·cases hx
theorem findD_ok {d : Def} : ∀ {ds : List (Nat × Def)} {m : Nat}, findD d ds = some m → (m, d) ∈ ds
 | [], m, h => by cases h
 | (n, e) :: r, m, h => by
  unfold findD at h
  cases hb : e.beq d with
  | true =>
   rw [hb, cond_true, osE] at h
   subst h
   rw [Def.beq_eq hb]; exact lmS
  | false => rw [hb, cond_false] at h; exact lmM _ (findD_ok h)
theorem den_tab {T1 T2 : Tb} {F : List Nat} (hT : ∀ f, hasN f F = true → lk f T1 = lk f T2) {op : DOp} (h : opOk F op = true) (as : List (List Int)) : op.den T2 as = op.den T1 as := by
 cases op <;> first | rfl | (simp only [DOp.den, hT _ h])
theorem simDs_ok {T1 T2 : Tb} {F : List Nat} (hT : ∀ f, hasN f F = true → lk f T1 = lk f T2) {ρ1 ρ2 : Env} {ds1 : List (Nat × Def)} (h1 : DsE T1 ρ1 ds1) {pm : List (List X)} : ∀ {ds2 : List (Nat × Def)} {nm : List (Nat × Nat)}, SimOk ⟨pm, nm⟩ ρ1 ρ2 → DsE T2 ρ2 ds2 → SimOk ⟨pm, simDs F ds1 pm nm ds2⟩ ρ1 ρ2
 | [], nm, h, _ => h
 | (n, d) :: r, nm, h, h2 => by
  have h2r : DsE T2 ρ2 r := fun p hp => h2 p (lmM _ hp)
  unfold simDs
  split
  ·rename_i as has
   cases ho : opOk F d.op with
   | false => exact simDs_ok hT h1 h h2r
   | true =>
    simp only [cond_true]
    split
    ·rename_i m hm
     refine simDs_ok hT h1 ⟨h.pm, fun k m' hk => ?_⟩ h2r
     simp only [lk] at hk
     cases hb : Nat.beq n k with
     | true =>
      rw [hb, cond_true, osE] at hk
      have := nbE hb
      subst this; subst hk
      have e2 : ρ2 n = d.den T2 ρ2 := h2 (n, d) lmS
      have e1 : ρ1 m = (⟨d.op, as⟩ : Def).den T1 ρ1 := h1 _ (findD_ok hm)
      rw [e2, e1]
      show d.op.den T2 (d.args.map (·.den ρ2)) = d.op.den T1 (as.map (·.den ρ1))
      rw [trAs_ok h has, den_tab hT ho]
     | false => rw [hb, cond_false] at hk; exact h.nm k m' hk
    ·exact simDs_ok hT h1 h h2r
  ·exact simDs_ok hT h1 h h2r
end Go.Proofs.YtloibefkijfdlaaGreatDoor
