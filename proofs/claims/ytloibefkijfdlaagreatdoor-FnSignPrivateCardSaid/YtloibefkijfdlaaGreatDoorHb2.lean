/- blockGeneric on any number of blocks: one round. -/
import Derived.Test.YtloibefkijfdlaaGreatDoorHb1
namespace Go.Proofs.YtloibefkijfdlaaGreatDoor
open Go
theorem t_l2B : lpAll l2B Cb_sha512_blockGeneric 8 80 80 = true := by kernel_rfl
theorem t_g4 : blkT (1000000 + 154) (lin (g4.i.tree C4B)) = true := by kernel_rfl
theorem lo_g4 : linOk 10 (g4.i.tree C4B) = true := by kernel_rfl
theorem lk_g4 : lk (1000000 + 154) C4B.T = some (.one (l2B.sum Cb_sha512_blockGeneric (l2B.pre Cb_sha512_blockGeneric))) := by kernel_rfl
theorem lp_preT {t : Tree} {C : Cx} {l : LpI} {Cb : Cx} {f n : Nat} (hl : lk f C.T = some (.one (l.sum Cb (l.pre Cb)))) (ht : blkT f (lin t) = true) {np : Nat} (hk : linOk np t = true) (hq : 8 < l.s0.params.length) (ha : lpAll l Cb 8 n n = true) (hf : ∀ a, l.fuel a = n + 1) (ρ0 : Env) : evOb C.T t ρ0 := by
 unfold blkT at ht
 split at ht
 ·rename_i ds g al e st hlin
  simp only [baE] at ht
  have e1 := nbE ht.1
  subst e1
  obtain ⟨k1, k2, k3, k4, k5⟩ := lin_ok (T := C.T) (ρ := ρ0) hk hlin
  refine k5 fun q hq' => ?_
  rw [List.mem_singleton] at hq'
  subst hq'
  refine obl_pre hl rfl (LpI.sum_pre (LpI.pre_of (hf _) (lpAll_ok hq ha ?_ (by omega))))
  have h2 := ht.2
  split at h2
  ·rename_i r h8
   have h9 : al[8]? = some (.xs [.lit (.ofNat 0)]) := by
    have : (al.drop 8)[0]? = some (.xs [.lit (.ofNat 0)]) := by rw [h8]; rfl
    rw [List.getElem?_drop] at this
    exact this
   rw [List.getD, List.getElem?_map, h9]
   show [(0 : Int)] = [(n : Int) - (n : Int)]
   rw [Int.sub_self]
  ·cases h2
 ·cases ht
theorem fu_l2B (a : List (List Int)) : l2B.fuel a = 80 + 1 := by
 have : l2B.fuel = fun _ => 80 + 1 := by kernel_rfl
 rw [this]
theorem le_l2B : Nat.ble 9 l2B.s0.params.length = true := by kernel_rfl
set_option maxRecDepth 100000 in
theorem ob_g4 (ρ0 : Env) : evOb C4B.T (g4.i.tree C4B) ρ0 := lp_preT lk_g4 t_g4 lo_g4 (nbL le_l2B) t_l2B fu_l2B ρ0
end Go.Proofs.YtloibefkijfdlaaGreatDoor
