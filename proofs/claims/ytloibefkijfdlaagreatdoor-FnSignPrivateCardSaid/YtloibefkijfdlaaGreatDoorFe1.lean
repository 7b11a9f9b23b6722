/- The operations of the field as numbers. -/
import Derived.Test.YtloibefkijfdlaaGreatDoorCa
import Derived.Test.YtloibefkijfdlaaGreatDoorFe0
namespace Go.Proofs.YtloibefkijfdlaaGreatDoor
open Go
def Mfe : List (Nat × FK) := [(197, .mulc 19), (172, .mul64)]
theorem Mfe_ok {T : Tb} (h1 : lk 197 T = some (.one s_field_mul19)) (h2 : lk 172 T = some (.one s_bits_Mul64)) : MOkF T Mfe := fun f κ h => by
 simp only [Mfe, lk] at h
 cases hb : Nat.beq 197 f with
 | true =>
  rw [hb, cond_true, osE] at h
  have := nbE hb
  subst this; subst h
  exact fk_mul19 h1
 | false =>
  rw [hb, cond_false] at h
  cases hb2 : Nat.beq 172 f with
  | true =>
   rw [hb2, cond_true, osE] at h
   have := nbE hb2
   subst this; subst h
   exact fk_mul64 h2
  | false => rw [hb2] at h; cases h
def Mf1 : List (Nat × FK) := [(197, .mulc 19)]
theorem Mf1_ok {T : Tb} (h1 : lk 197 T = some (.one s_field_mul19)) : MOkF T Mf1 := fun f κ h => by
 simp only [Mf1, lk] at h
 cases hb : Nat.beq 197 f with
 | true =>
  rw [hb, cond_true, osE] at h
  have := nbE hb
  subst this; subst h
  exact fk_mul19 h1
 | false => rw [hb] at h; cases h
theorem t_mul : feTest 0 (pmul [] (inP 1 0) (inP 2 0)) (ckFn i_field_Element_Multiply C_field_Element_Multiply Mfe [[], bF, bF]) = true := by kernel_rfl
theorem t_sq : feTest 0 (pmul [] (inP 1 0) (inP 1 0)) (ckFn i_field_Element_Square C_field_Element_Square Mfe [[], bF]) = true := by kernel_rfl
theorem t_add : feTest 0 (padd (inP 1 0) (inP 2 0)) (ckFn i_field_Element_Add C_field_Element_Add Mf1 [[], bF, bF]) = true := by kernel_rfl
theorem t_sub : feTest 0 (padd (inP 1 0) (psmul (-1) (inP 2 0))) (ckFn i_field_Element_Subtract C_field_Element_Subtract Mf1 [[], bF, bF]) = true := by kernel_rfl
end Go.Proofs.YtloibefkijfdlaaGreatDoor
