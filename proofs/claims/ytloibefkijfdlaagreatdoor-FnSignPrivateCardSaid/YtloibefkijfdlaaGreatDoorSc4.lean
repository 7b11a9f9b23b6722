/- Scalars: results are words. -/
import Derived.Test.YtloibefkijfdlaaGreatDoorSc
namespace Go.Proofs.YtloibefkijfdlaaGreatDoor
open Go
def u4T (r : Option (List (List AV))) : Bool := match r with
 | some [d] => Nat.beq d.length 4 && d.all fun a => ileB 0 a.lo && ileB a.hi 18446744073709551615
 | _ => false
theorem u4Fn {i : FnI} {C : Cx} {M : List (Nat × FK)} (hM : MOkF C.T M) {bnds : List (List (Int × Int))} (h : u4T (ckFn i C M bnds) = true) {ins : List (List Int)} (hb : BndOk bnds ins) : u4 (i.raw C 0 ins) := by
 unfold u4T at h
 split at h
 ·rename_i d hd
  simp only [baE] at h
  have h4 := nbE h.1
  obtain ⟨_, ρ, _, h3⟩ := ckFn_ok hM hd hb
  have hA := h3 0 d rfl
  refine ⟨hA.1.trans h4, fun k hk => ?_⟩
  have h1 : k < (i.raw C 0 ins).length := by rw [hA.1]; omega
  have h2 : k < d.length := by omega
  have := hA.2 k _ _ (lgE h1) (lgE h2)
  have hb := List.all_eq_true.1 h.2 d[k] (List.getElem_mem h2)
  simp only [baE] at hb
  rw [List.getD, lgE h1]
  exact ⟨Int.le_trans (ileB_le hb.1) this.2.1, Int.le_trans this.2.2.1 (ileB_le hb.2)⟩
 ·cases h
def bY32 : List (Int × Int) := List.replicate 32 (0, 255)
theorem t_fb4 : u4T (ckFn i_edwards25519_fiatScalarFromBytes C_edwards25519_fiatScalarFromBytes [] [[], bY32]) = true := by kernel_rfl
theorem t_tm4 : u4T (ckFn i_edwards25519_fiatScalarToMontgomery C_edwards25519_fiatScalarToMontgomery M_fs [[], bU4]) = true := by kernel_rfl
theorem t_mu4 : u4T (ckFn i_edwards25519_fiatScalarMul C_edwards25519_fiatScalarMul M_fs [[], bU4, bU4]) = true := by kernel_rfl
end Go.Proofs.YtloibefkijfdlaaGreatDoor
