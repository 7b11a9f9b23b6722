/- A private key that was parsed is the one of its seed. -/
import Derived.Test.YtloibefkijfdlaaGreatDoorKy1
import Derived.Test.YtloibefkijfdlaaGreatDoorSmx
namespace Go.Proofs.YtloibefkijfdlaaGreatDoor
open Go
def simQ (F : List Nat) (p1 : Pth) (es1 : Eqs) (p2 : Pth) (es2 : Eqs) : Bool := match es1, es2 with
 | (xs1, _) :: _, (xs2, _) :: _ => (match trXs ⟨[(List.range 100).map fun k => X.v 0 k, xs1.take 64], simDs F p1.ds [(List.range 100).map fun k => X.v 0 k, xs1.take 64] [] p2.ds⟩ xs2 with
  | some ys => beqL X.beq ys xs1
  | none => false)
 | _, _ => false
theorem sim_gen {F : List Nat} {i1 i2 : FnI} {C1 C2 : Cx} {v a : List Int} (hp1 : i1.s0.params.length = 2) (hp2 : i2.s0.params.length = 2) (hT : ∀ f, hasN f F = true → lk f C1.T = lk f C2.T)
  (h : runC (fun p1 es1 => runC (simQ F p1 es1) (i2.tree C2) C2 i2.s0 i2.rvs [none, none]) (i1.tree C1) C1 i1.s0 i1.rvs [none, none] = true) (hv : v.length = 100) :
  i2.raw C2 0 [v, (i1.raw C1 0 [v, a]).take 64] = i1.raw C1 0 [v, a] := by
 have hk : ∀ (ins : List (List Int)) (j : Nat) (l' : List Int), ([none, none] : List (Option (List Int)))[j]? = some (some l') → ins.getD j [] = l' := fun ins j l' hj => by
  rcases j with _ | _ | j <;> simp at hj
 obtain ⟨p1, es1, ρ1, r1, hq1⟩ := runC_ok h (ins := [v, a]) (hk _)
 obtain ⟨p2, es2, ρ2, r2, hq⟩ := runC_ok hq1 (ins := [v, (i1.raw C1 0 [v, a]).take 64]) (hk _)
 unfold simQ at hq
 split at hq
 ·rename_i xs1 F1 t1 xs2 F2 t2
  split at hq
  ·rename_i ys hys
   have hyx : ys = xs1 := beqL_eq (fun _ _ => X.beq_eq) hq
   have e1 := r1.raw 0 _ rfl
   have e2 := r2.raw 0 _ rfl
   have h0 : SimOk ⟨[(List.range 100).map fun k => X.v 0 k, xs1.take 64], []⟩ ρ1 ρ2 := ⟨fun j l hj => by
    match j, hj with
    | 0, hj =>
     simp only [List.getElem?_cons_zero, osE] at hj
     subst hj
     have a1 : ρ2 0 = v := r2.ar 0 (by omega)
     have a2 : ρ1 0 = v := r1.ar 0 (by omega)
     rw [a1, List.map_map]
     apply List.ext_getElem?
     intro k
     by_cases hk : k < 100
     ·simp [hk, X.den, a2, List.getD, hv]
     ·rw [List.getElem?_eq_none (by omega), List.getElem?_eq_none (by simp; omega)]
    | 1, hj =>
     simp only [List.getElem?_cons_succ, List.getElem?_cons_zero, osE] at hj
     subst hj
     have a1 : ρ2 1 = (i1.raw C1 0 [v, a]).take 64 := r2.ar 1 (by omega)
     rw [a1, e1, List.map_take]
    | j + 2, hj => simp at hj, fun n m hm => by simp [lk] at hm⟩
   have hS := simDs_ok hT r1.ds h0 r2.ds
   rw [e2, e1, trXs_ok hS hys, hyx]
  ·cases hq
 ·cases hq
def simF : List Nat := [154, 155, 10000 + 155, 20000 + 155, 30000 + 155, 40000 + 155, 50000 + 155, 60000 + 155, 70000 + 155, 95]
theorem simF_0 : lk (154) C_ed25519_newPrivateKeyFromSeed.T = lk (154) C_ed25519_newPrivateKey.T :=
 (show lk (154) C_ed25519_newPrivateKeyFromSeed.T = some (.one s_sha512_blockGeneric) by kernel_rfl).trans (show lk (154) C_ed25519_newPrivateKey.T = some (.one s_sha512_blockGeneric) by kernel_rfl).symm
theorem simF_1 : lk (155) C_ed25519_newPrivateKeyFromSeed.T = lk (155) C_ed25519_newPrivateKey.T :=
 (show lk (155) C_ed25519_newPrivateKeyFromSeed.T = some (.one s_sha512_bePutUint64) by kernel_rfl).trans (show lk (155) C_ed25519_newPrivateKey.T = some (.one s_sha512_bePutUint64) by kernel_rfl).symm
theorem simF_2 : lk (10000 + 155) C_ed25519_newPrivateKeyFromSeed.T = lk (10000 + 155) C_ed25519_newPrivateKey.T :=
 (show lk (10000 + 155) C_ed25519_newPrivateKeyFromSeed.T = some (.one s_sha512_bePutUint64_v1) by kernel_rfl).trans (show lk (10000 + 155) C_ed25519_newPrivateKey.T = some (.one s_sha512_bePutUint64_v1) by kernel_rfl).symm
theorem simF_3 : lk (20000 + 155) C_ed25519_newPrivateKeyFromSeed.T = lk (20000 + 155) C_ed25519_newPrivateKey.T :=
 (show lk (20000 + 155) C_ed25519_newPrivateKeyFromSeed.T = some (.one s_sha512_bePutUint64_v2) by kernel_rfl).trans (show lk (20000 + 155) C_ed25519_newPrivateKey.T = some (.one s_sha512_bePutUint64_v2) by kernel_rfl).symm
theorem simF_4 : lk (30000 + 155) C_ed25519_newPrivateKeyFromSeed.T = lk (30000 + 155) C_ed25519_newPrivateKey.T :=
 (show lk (30000 + 155) C_ed25519_newPrivateKeyFromSeed.T = some (.one s_sha512_bePutUint64_v3) by kernel_rfl).trans (show lk (30000 + 155) C_ed25519_newPrivateKey.T = some (.one s_sha512_bePutUint64_v3) by kernel_rfl).symm
theorem simF_5 : lk (40000 + 155) C_ed25519_newPrivateKeyFromSeed.T = lk (40000 + 155) C_ed25519_newPrivateKey.T :=
 (show lk (40000 + 155) C_ed25519_newPrivateKeyFromSeed.T = some (.one s_sha512_bePutUint64_v4) by kernel_rfl).trans (show lk (40000 + 155) C_ed25519_newPrivateKey.T = some (.one s_sha512_bePutUint64_v4) by kernel_rfl).symm
theorem simF_6 : lk (50000 + 155) C_ed25519_newPrivateKeyFromSeed.T = lk (50000 + 155) C_ed25519_newPrivateKey.T :=
 (show lk (50000 + 155) C_ed25519_newPrivateKeyFromSeed.T = some (.one s_sha512_bePutUint64_v5) by kernel_rfl).trans (show lk (50000 + 155) C_ed25519_newPrivateKey.T = some (.one s_sha512_bePutUint64_v5) by kernel_rfl).symm
theorem simF_7 : lk (60000 + 155) C_ed25519_newPrivateKeyFromSeed.T = lk (60000 + 155) C_ed25519_newPrivateKey.T :=
 (show lk (60000 + 155) C_ed25519_newPrivateKeyFromSeed.T = some (.one s_sha512_bePutUint64_v6) by kernel_rfl).trans (show lk (60000 + 155) C_ed25519_newPrivateKey.T = some (.one s_sha512_bePutUint64_v6) by kernel_rfl).symm
theorem simF_8 : lk (70000 + 155) C_ed25519_newPrivateKeyFromSeed.T = lk (70000 + 155) C_ed25519_newPrivateKey.T :=
 (show lk (70000 + 155) C_ed25519_newPrivateKeyFromSeed.T = some (.one s_sha512_bePutUint64_v7) by kernel_rfl).trans (show lk (70000 + 155) C_ed25519_newPrivateKey.T = some (.one s_sha512_bePutUint64_v7) by kernel_rfl).symm
theorem simF_9 : lk (95) C_ed25519_newPrivateKeyFromSeed.T = lk (95) C_ed25519_newPrivateKey.T :=
 (show lk (95) C_ed25519_newPrivateKeyFromSeed.T = some (.one s_edwards25519_Scalar_SetBytesWithClamping) by kernel_rfl).trans (show lk (95) C_ed25519_newPrivateKey.T = some (.one s_edwards25519_Scalar_SetBytesWithClamping) by kernel_rfl).symm
theorem simF_ok : ∀ f, hasN f simF = true → lk f C_ed25519_newPrivateKeyFromSeed.T = lk f C_ed25519_newPrivateKey.T := fun f hf => by
 simp only [simF, hasN, Bool.or_eq_true, Bool.or_false] at hf
 rcases hf with h | h | h | h | h | h | h | h | h | h
 ·rw [← nbE h]; exact simF_0
 ·rw [← nbE h]; exact simF_1
 ·rw [← nbE h]; exact simF_2
 ·rw [← nbE h]; exact simF_3
 ·rw [← nbE h]; exact simF_4
 ·rw [← nbE h]; exact simF_5
 ·rw [← nbE h]; exact simF_6
 ·rw [← nbE h]; exact simF_7
 ·rw [← nbE h]; exact simF_8
 ·rw [← nbE h]; exact simF_9
theorem t_sim : runC (fun p1 es1 => runC (simQ simF p1 es1) (i_ed25519_newPrivateKey.tree C_ed25519_newPrivateKey) C_ed25519_newPrivateKey i_ed25519_newPrivateKey.s0 i_ed25519_newPrivateKey.rvs [none, none]) (i_ed25519_newPrivateKeyFromSeed.tree C_ed25519_newPrivateKeyFromSeed) C_ed25519_newPrivateKeyFromSeed i_ed25519_newPrivateKeyFromSeed.s0 i_ed25519_newPrivateKeyFromSeed.rvs [none, none] = true := by kernel_rfl
theorem nk_eq {v a : List Int} (hv : v.length = 100) : i_ed25519_newPrivateKey.raw C_ed25519_newPrivateKey 0 [v, (i_ed25519_newPrivateKeyFromSeed.raw C_ed25519_newPrivateKeyFromSeed 0 [v, a]).take 64] = i_ed25519_newPrivateKeyFromSeed.raw C_ed25519_newPrivateKeyFromSeed 0 [v, a] :=
 sim_gen rfl rfl simF_ok t_sim hv
end Go.Proofs.YtloibefkijfdlaaGreatDoor
