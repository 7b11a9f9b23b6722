/- Powers; the curve's constants. -/
import Derived.Test.YtloibefkijfdlaaGreatDoorBc
import Derived.Test.YtloibefkijfdlaaGreatDoorFe3
namespace Go.Proofs.YtloibefkijfdlaaGreatDoor
open Go Ma
def FX.exp : FX → Option Nat
 | .v 0 => some 1
 | .mul x y => (match x.exp, y.exp with
  | some m, some n => some (m + n)
  | _, _ => none)
 | .pw x n => (match x.exp with
  | some m => some (m * n)
  | none => none)
 | _ => none
theorem FX.exp_ok {ρ : FV} : ∀ {e : FX} {m : Nat}, e.exp = some m → e.isB = false ∧ e.ev ρ = fpw (ρ.v 0) m
 | .v 0, m, h => by simp only [FX.exp, osE] at h; subst h; exact ⟨rfl, (fpw_one _).symm⟩
 | .v (n + 1), m, h => by cases h
 | .mul x y, m, h => by
  unfold FX.exp at h
  split at h
  ·rename_i a b h1 h2
   simp only [osE] at h; subst h
   refine ⟨rfl, ?_⟩
   show x.ev ρ * y.ev ρ = _
   rw [(FX.exp_ok h1).2, (FX.exp_ok h2).2, fpw_add]
  ·cases h
 | .pw x n, m, h => by
  unfold FX.exp at h
  split at h
  ·rename_i a h1
   simp only [osE] at h; subst h
   refine ⟨rfl, ?_⟩
   show fpw (x.ev ρ) n = _
   rw [(FX.exp_ok h1).2, fpw_mul]
  ·cases h
 | .k _, _, h => by cases h
 | .add _ _, _, h => by cases h
 | .sub _ _, _, h => by cases h
 | .b _, _, h => by cases h
 | .ite _ _ _, _, h => by cases h
 | .t _, _, h => by cases h
 | .eq _ _, _, h => by cases h
 | .or _ _, _, h => by cases h
 | .odd _, _, h => by cases h
 | .not _, _, h => by cases h
def pwT (n : Nat) (r : Option (List (List (Bk FX)))) : Bool := match r with
 | some [[.a 5 e]] => (match e.exp with
  | some m => Nat.beq m n
  | none => false)
 | _ => false
theorem pwFn {M : List (Nat × KF)} {i : FnI} {C : Cx} {n : Nat} (hM : MF C.T M) (h : pwT n (bkFn (tfF M) noO i C [none, some (fb [.v 0])]) = true) {v a : List Int} {x : Fp} (ha : feR x a) :
  evOb C.T (i.tree C) (insE [v, a]) ∧ feR (fpw x n) (i.raw C 0 [v, a]) := by
 unfold pwT at h
 split at h
 ·rename_i e hr
  split at h
  ·rename_i m hm
   have := nbE h
   subst this
   have hx := FX.exp_ok (ρ := ⟨fun _ => x, fun _ => false⟩) hm
   obtain ⟨h1, u, w, g1, g2, g3⟩ := ptFn (es := [e]) hM hr (by simp only [noB, List.all_cons, hx.1]; rfl) ⟨fun _ => x, fun _ => false⟩ (ins := [v, a]) (.no (.yes (FsR.bl rfl ⟨a, [], by simp, ha, rfl⟩) .nil))
   have hw : w = [] := g3
   rw [hw, List.append_nil] at g1
   subst g1
   have g2' : feR (e.ev ⟨fun _ => x, fun _ => false⟩) (i.raw C 0 [v, a]) := g2
   rw [hx.2] at g2'
   exact ⟨h1, g2'⟩
  ·cases h
 ·cases h
theorem t_inv : pwT eI (bkFn (tfF [(112, .sq), (115, .mul), (211, .sqn)]) noO i_field_Element_Invert C_field_Element_Invert [none, some (fb [.v 0])]) = true := by kernel_rfl
theorem kf_inv {T : Tb} (h : lk 180 T = some (.one s_field_Element_Invert)) : KF.Ok T 180 (.pw eI) := fun v a x ha => by
 have hp := pwFn (.cons (kf_sq rfl) (.cons (kf_mul rfl) (.cons (kf_sqn rfl) .nil))) t_inv (v := v) ha
 refine ⟨pay_one h hp.1, ?_⟩
 rw [gv_one h]
 show feR _ (fixL 5 (i_field_Element_Invert.raw C_field_Element_Invert 0 [v, a]))
 rw [fixL_id hp.2.1.1]
 exact hp.2
theorem t_pow : pwT eP (bkFn (tfF [(112, .sq), (115, .mul), (211, .sqn)]) noO i_field_Element_Pow22523 C_field_Element_Pow22523 [none, some (fb [.v 0])]) = true := by kernel_rfl
theorem kf_pow {T : Tb} (h : lk 160 T = some (.one s_field_Element_Pow22523)) : KF.Ok T 160 (.pw eP) := fun v a x ha => by
 have hp := pwFn (.cons (kf_sq rfl) (.cons (kf_mul rfl) (.cons (kf_sqn rfl) .nil))) t_pow (v := v) ha
 refine ⟨pay_one h hp.1, ?_⟩
 rw [gv_one h]
 show feR _ (fixL 5 (i_field_Element_Pow22523.raw C_field_Element_Pow22523 0 [v, a]))
 rw [fixL_id hp.2.1.1]
 exact hp.2
def dL : List Int := [929955233495203, 466365720129213, 1662059464998953, 2033849074728123, 1442794654840575]
def d2L : List Int := [1859910466990425, 932731440258426, 1072319116312658, 1815898335770999, 633789495995903]
def d2Z : Int := feV d2L
theorem raw_d (v : List (List Int)) : i_edwards25519_dOf.raw C_edwards25519_dOf 0 v = dL := by kernel_rfl
theorem raw_d2 (v : List (List Int)) : i_edwards25519_d2.raw C_edwards25519_d2 0 v = d2L := by kernel_rfl
theorem raw_feOne (v : List (List Int)) : i_edwards25519_feOne.raw C_edwards25519_feOne 0 v = [1, 0, 0, 0, 0] := by kernel_rfl
theorem kf_d {T : Tb} (h : lk 116 T = some (.one s_edwards25519_dOf)) : KF.Ok T 116 (.k (feV dL)) := fun v => by
 refine ⟨pay_one h trivial, ?_⟩
 rw [gv_one h]
 show feR _ (fixL 5 (i_edwards25519_dOf.raw C_edwards25519_dOf 0 v))
 rw [raw_d]
 exact ⟨litF_ok rfl, rfl⟩
theorem kf_d2 {T : Tb} (h : lk 209 T = some (.one s_edwards25519_d2)) : KF.Ok T 209 (.k d2Z) := fun v => by
 refine ⟨pay_one h trivial, ?_⟩
 rw [gv_one h]
 show feR _ (fixL 5 (i_edwards25519_d2.raw C_edwards25519_d2 0 v))
 rw [raw_d2]
 exact ⟨litF_ok rfl, rfl⟩
theorem kf_feOne {T : Tb} (h : lk 114 T = some (.one s_edwards25519_feOne)) : KF.Ok T 114 (.k 1) := fun v => by
 refine ⟨pay_one h trivial, ?_⟩
 rw [gv_one h]
 show feR _ (fixL 5 (i_edwards25519_feOne.raw C_edwards25519_feOne 0 v))
 rw [raw_feOne]
 exact ⟨litF_ok rfl, rfl⟩
theorem d_eq : fpI (feV dL) = dE := by decide +kernel
theorem d2_eq : fpI d2Z = dE + dE := by decide +kernel
end Go.Proofs.YtloibefkijfdlaaGreatDoor
