/- FnPrivateBack for seeds of 32 bytes: the law holds. -/
import Derived.Test.YtdcmnkbegcebgaaGreatDoorDb8
import Derived.Test.YtdcmnkbegcebgaaGreatDoorKy1
import Derived.Test.YtdcmnkbegcebgaaGreatDoorLc
namespace Go.Proofs.YtdcmnkbegcebgaaGreatDoor
open Go Ma

theorem kw_ky {T : Tb} (h : lk 24 T = some (.one s_ed25519_newPrivateKeyFromSeed)) : KW.Ok T 24 (.an2 100) := fun a b => ⟨ky_pay h a b, len_of (F := fun a => i_ed25519_newPrivateKeyFromSeed.raw C_ed25519_newPrivateKeyFromSeed 0 a) h rfl [a, b]⟩
theorem kw_kz {T : Tb} (h : lk 26 T = some (.one s_ed25519_newPrivateKey)) : KW.Ok T 26 (.an2 100) := fun a b => ⟨kz_pay h a b, len_of (F := fun a => i_ed25519_newPrivateKey.raw C_ed25519_newPrivateKey 0 a) h rfl [a, b]⟩
def M_lb : List (Nat × KW) := (24, .an2 100) :: M_kz
theorem M_lb_ok : MW C_laws_FnPrivateBack.T M_lb := .cons (kw_ky rfl) (.cons (kw_bp64 rfl) (.cons (kw_bp56 rfl) (.cons (kw_bp48 rfl) (.cons (kw_bp40 rfl) (.cons (kw_bp32 rfl) (.cons (kw_bp24 rfl) (.cons (kw_bp16 rfl) (.cons (kw_bp8 rfl) (.cons (kw_blk rfl) (.cons (kw_cl rfl) .nil))))))))))
/-- a law whose every branch is decided, whose debts are paid and whose result is 1 -/
def lawK (M : List (Nat × KW)) (tr : Tree) (C : Cx) (s0 : FSum) (rvs : List ResultVar) (kin : List (Option (List Int))) (bin : List (Option (List (Nat × WX)))) : Bool :=
  match linK (kIn 0 kin) tr with
  | some p => linKOk s0.params.length (kIn 0 kin) tr && Nat.beq bin.length s0.params.length && Nat.beq kin.length s0.params.length && p.cs.isEmpty && p.ob.all (bkOb (tfW M) (noO p.ds) (bkAll (tfW M) (bkIn 0 bin) p.ds)) &&
    (match leafE C s0 rvs p.st with
    | some ((xs, _) :: _) => (match kXs p.K xs with
      | some [.ofNat 1] => true
      | _ => false)
    | _ => false)
  | none => false
theorem law_one {M : List (Nat × KW)} {i : FnI} {C : Cx} {kin : List (Option (List Int))} {bin : List (Option (List (Nat × WX)))} (hM : MW C.T M) (h : lawK M (i.tree C) C i.s0 i.rvs kin bin = true) {ins : List (List Int)}
    (hk : ∀ (j : Nat) (l : List Int), kin[j]? = some (some l) → ins.getD j [] = l) (hin : InB γW bin ins) : evOb C.T (i.tree C) (insE ins) ∧ i.raw C 0 ins = [1] := by
  unfold lawK at h
  split at h
  · rename_i p hl
    simp only [Bool.and_eq_true] at h
    obtain ⟨⟨⟨⟨⟨h1, h2⟩, h3⟩, h4⟩, h5⟩, h6⟩ := h
    have hlen := Nat.eq_of_beq_eq_true h2
    have hlen2 := Nat.eq_of_beq_eq_true h3
    have hK0 : KOk i.s0.params.length (insE ins) (kIn 0 kin) := fun j l hj => by
      obtain ⟨k, e1, e2⟩ := kIn_get hj
      rw [Nat.zero_add] at e1
      subst e1
      have hlt : j < kin.length := (List.getElem?_eq_some_iff.1 e2).1
      exact ⟨by omega, hk j l e2⟩
    obtain ⟨k1, k2, k3, k4, ⟨hi, k5⟩, k6⟩ := linK_ok (T := C.T) (np := i.s0.params.length) (ρ0 := insE ins) (ρ := insE ins) (Nat.le_refl _) (AgE.refl _ _) hK0 h1 hl
    have hρ : ∀ j, j < i.s0.params.length → upds C.T (insE ins) p.ds j = ins.getD j [] := fun j hj => by rw [k1 j hj]; rfl
    have hin2 : BSOk γW (upds C.T (insE ins) p.ds) (bkIn 0 bin) := fun j bs hj => by
      obtain ⟨k, e1, e2⟩ := bkIn_get hj
      rw [Nat.zero_add] at e1
      subst e1
      have hlt : j < bin.length := (List.getElem?_eq_some_iff.1 e2).1
      rw [hρ j (by omega)]
      exact hin.get j bs e2
    have hS := bkAll_ok γW (tfW_ok hM) hin2 k2
    refine ⟨k6 (fun q hq => bkOb_ok γW (tfW_ok hM) (noO_ok p.ds) k2 hS (List.all_eq_true.1 h5 q hq)) (fun c hc => ?_), ?_⟩
    · have := List.isEmpty_iff.1 h4
      rw [this] at hc; cases hc
    · split at h6
      · rename_i xs f r hes
        split at h6
        · rename_i hx
          have e : i.raw C 0 ins = xs.map (·.den (upds C.T (insE ins) p.ds)) := by
            unfold FnI.raw rawT
            rw [k4]
            simp only [hes]
            rfl
          rw [e, kXs_ok k5 hx]; rfl
        · cases h6
      · cases h6
  · cases h
theorem law_walk {P : Program} {GB : Nat} {GC : Nat → Nat → Option Value} {f : Nat} {i : FnI} {C : Cx} {M : List (Nat × KW)} {kin : List (Option (List Int))} {bin : List (Option (List (Nat × WX)))} {g : PI} {ps : List PSh} {args : List Value} {ins : List (List Int)} {bs : List (Nat × Nat)} {w : World}
    (h : FEOk P GB GC f (.one (i.sumP C))) (hM : MW C.T M) (hk : lawK M (i.tree C) C i.s0 i.rvs kin bin = true) (hki : ∀ (j : Nat) (l : List Int), kin[j]? = some (some l) → ins.getD j [] = l) (hin : InB γW bin ins) (hp : i.s0.params = ps) (hout : i.s0.outs = []) (hfr : i.s0.fresh = []) (hret : i.s0.ret = [.bool g])
    (hgw : GW GC w) (hGB : GB ≤ w.heap.size) (hP : PMs GB w ps args ins bs) (hS : PSeps ps bs) : Calls P f args.toArray w fun e w' => e = .returned (.bool true) ∧ Go.RowKit.Below w.heap.size w w' := by
  have hh := law_one hM hk hki hin
  exact law_fn h hp hout hfr hret hgw hGB hP hS hh.1 hh.2
theorem t_lb : lawK M_lb (i_laws_FnPrivateBack.tree C_laws_FnPrivateBack) C_laws_FnPrivateBack i_laws_FnPrivateBack.s0 i_laws_FnPrivateBack.rvs [none] [none] = true := by kernel_rfl
section
variable {GB : Nat} {GC : Nat → Nat → Option Value} {ad : Nat → Nat × Nat} (hG : GOk GB GC ad)
include hG
theorem back_32 {w : World} {b o c : Nat} {xs : List Int} (hgw : GW GC w) (hGB : GB ≤ w.heap.size) (hl : xs.length = 32) (hc : 32 ≤ c) (hx : ∀ x ∈ xs, 0 ≤ x ∧ x ≤ 255) (hm : ∀ i, i < 32 → w.cell? ⟨b, o + i, none⟩ = some (.int .u8 (xs.getD i 0))) :
    Calls Tryz.prog 4 #[.slice (some ⟨b, o, none⟩) 32 c] w fun e w' => e = .returned (.bool true) ∧ Go.RowKit.Below w.heap.size w w' := by
  have hI : InB γW [none] [xs] := .no .nil
  exact law_walk (i := i_laws_FnPrivateBack) (C := C_laws_FnPrivateBack) (args := [.slice (some ⟨b, o, none⟩) 32 c]) (ins := [xs]) (bs := [(b, o)]) (ps := [.sl (List.replicate 32 .u8) 0 false]) (g := z0) (ok_laws_FnPrivateBack hG) M_lb_ok t_lb (fun j l h => by
    rcases j with _ | j
    · simp at h
    · simp at h) hI rfl rfl rfl rfl hgw hGB ⟨pm_u8 hl hc hx hm, trivial⟩ ⟨fun x hx => (by cases hx), trivial⟩
end
end Go.Proofs.YtdcmnkbegcebgaaGreatDoor
