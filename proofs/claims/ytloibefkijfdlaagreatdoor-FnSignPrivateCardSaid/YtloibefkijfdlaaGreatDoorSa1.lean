/- SHA-512 in plain words: what one round computes. -/
import Derived.Test.YtloibefkijfdlaaGreatDoorHb8
namespace Go.Proofs.YtloibefkijfdlaaGreatDoor
open Go
def evP (T : Tb) : Tree → List Bool → Env → Option ((Env × Ex × St) × List (Int × Bool))
 | .leaf e st, _, ρ => some ((ρ, e, st), [])
 | .evs ds _ t, bs, ρ => evP T t bs (upds T ρ ds)
 | .br x t f, bs, ρ => match bs with
  | b :: r => (match (bif b then evP T t r ρ else evP T f r ρ) with
   | some (z, cs) => some (z, (x.den ρ, b) :: cs)
   | none => none)
  | [] => none
 | .chk _ k, bs, ρ => evP T k bs ρ
 | .brc _ _ _ _, _, _ => none
 | .bad _, _, _ => none
def pthOk (cs : List (Int × Bool)) : Prop := ∀ c ∈ cs, (c.1 = 0 ↔ c.2 = false)
theorem evP_ok {T : Tb} : ∀ {t : Tree} {bs : List Bool} {ρ : Env} {z : Env × Ex × St} {cs : List (Int × Bool)}, evP T t bs ρ = some (z, cs) → pthOk cs → evX T t ρ = some z
 | .leaf e st, bs, ρ, z, cs, h, _ => by
  unfold evP at h
  simp only [osE, Prod.mk.injEq] at h
  rw [← h.1]; rfl
 | .evs ds ob t, bs, ρ, z, cs, h, hc => by
  unfold evP at h
  exact evP_ok (t := t) h hc
 | .br x t f, [], ρ, z, cs, h, _ => by
  unfold evP at h; cases h
 | .br x t f, b :: bs, ρ, z, cs, h, hc => by
  unfold evP at h
  simp only at h
  split at h
  ·rename_i z' cs' h'
   simp only [osE, Prod.mk.injEq] at h
   obtain ⟨rfl, rfl⟩ := h
   have h0 := hc (x.den ρ, b) lmS
   have hr : pthOk cs' := fun c hm => hc c (lmM _ hm)
   unfold evX
   cases b with
   | true =>
    rw [if_neg (fun e => by have := h0.1 e; cases this)]
    exact evP_ok (t := t) h' hr
   | false =>
    rw [if_pos (h0.2 rfl)]
    exact evP_ok (t := f) h' hr
  ·cases h
 | .brc f ar t e, bs, ρ, z, cs, h, _ => by
  unfold evP at h; cases h
 | .chk c k, bs, ρ, z, cs, h, hc => by
  unfold evP at h
  exact evP_ok (t := k) h hc
 | .bad s, bs, ρ, z, cs, h, _ => by
  unfold evP at h; cases h
def LpI.stepP (i : LpI) (C : Cx) (bs : List Bool) (ins : List (List Int)) : Option ((Bool × List (List Int)) × List (Int × Bool)) :=
 match evP C.T (i.tree C) bs (insE ins) with
 | some ((ρ, e, st), cs) => (match i.leaf e st with
  | some (b, al) => some ((b, al.map (·.den ρ)), cs)
  | none => none)
 | none => none
theorem LpI.stepP_ok {i : LpI} {C : Cx} {bs : List Bool} {ins : List (List Int)} {z : Bool × List (List Int)} {cs : List (Int × Bool)} (h : i.stepP C bs ins = some (z, cs)) (hc : pthOk cs) : i.step C ins = some z := by
 unfold LpI.stepP at h
 split at h
 ·rename_i ρ e st cs' hv
  split at h
  ·rename_i b al hl
   simp only [osE, Prod.mk.injEq] at h
   obtain ⟨rfl, rfl⟩ := h
   unfold LpI.step
   rw [evP_ok hv hc]
   simp only [hl]
  ·cases h
 ·cases h
abbrev o64 (op : BinOp) (x y : Int) : Int := binD op .u64 x y
def rl (x k : Int) : Int := o64 .or (o64 .shl x k) (o64 .shr x (64 - k))
def S1 (e : Int) : Int := o64 .xor (o64 .xor (rl e 50) (rl e 46)) (rl e 23)
def S0 (a : Int) : Int := o64 .xor (o64 .xor (rl a 36) (rl a 30)) (rl a 25)
def s1w (v : Int) : Int := o64 .xor (o64 .xor (rl v 45) (rl v 3)) (o64 .shr v 6)
def s0w (v : Int) : Int := o64 .xor (o64 .xor (rl v 63) (rl v 56)) (o64 .shr v 7)
def Ch (e f g : Int) : Int := o64 .xor (o64 .and e f) (o64 .and (o64 .xor 18446744073709551615 e) g)
def Mj (a b c : Int) : Int := o64 .xor (o64 .xor (o64 .and a b) (o64 .and a c)) (o64 .and b c)
def b8 (bl : List Int) (j : Int) : Int := IntKind.u64.wrap (bl.getD j.toNat 0)
def ai (i j : Int) : Int := binD .add .i64 i j
def si (i j : Int) : Int := binD .sub .i64 i j
def wd (bl : List Int) (j : Int) : Int :=
 o64 .or (o64 .or (o64 .or (o64 .or (o64 .or (o64 .or (o64 .or (o64 .shl (b8 bl j) 56) (o64 .shl (b8 bl (ai j 1)) 48)) (o64 .shl (b8 bl (ai j 2)) 40)) (o64 .shl (b8 bl (ai j 3)) 32)) (o64 .shl (b8 bl (ai j 4)) 24)) (o64 .shl (b8 bl (ai j 5)) 16)) (o64 .shl (b8 bl (ai j 6)) 8)) (b8 bl (ai j 7))
def wat (ws : List Int) (j : Int) : Int := ws.getD j.toNat 0
def nw (ws : List Int) (i : Int) : Int := o64 .add (o64 .add (o64 .add (s1w (wat ws (si i 2))) (wat ws (si i 7))) (s0w (wat ws (si i 15)))) (wat ws (si i 16))
def T1 (k e f g h w : Int) : Int := o64 .add (o64 .add (o64 .add (o64 .add h (S1 e)) (Ch e f g)) k) w
def T2 (a b c : Int) : Int := o64 .add (S0 a) (Mj a b c)
def lvI : LV → Int
 | .int _ (.lit n) => n
 | _ => 0
def kTab : List Int := match allG.find? (fun p => Nat.beq p.2.length 80) with
 | some p => p.2.map lvI
 | none => []
def rOut (bl ws : List Int) (i w a b c d e f g h : Int) : List (List Int) :=
 let ws' := ws.set i.toNat w
 let t := T1 (wat kTab i) e f g h (wat ws' i)
 [[o64 .add t (T2 a b c)], [a], [b], [c], [o64 .add d t], [e], [f], [g], [ai i 1], ws', bl]
theorem step_lo {a b c d e f g h i : Int} {ws bl : List Int} : l2B.stepP Cb_sha512_blockGeneric [true, true] [[a], [b], [c], [d], [e], [f], [g], [h], [i], ws, bl] = some ((true, rOut bl ws i (wd bl (binD .mul .i64 i 8)) a b c d e f g h), [(binD .lss .i64 i 80, true), (binD .lss .i64 i 16, true)]) := by kernel_rfl
theorem step_hi {a b c d e f g h i : Int} {ws bl : List Int} : l2B.stepP Cb_sha512_blockGeneric [true, false] [[a], [b], [c], [d], [e], [f], [g], [h], [i], ws, bl] = some ((true, rOut bl ws i (nw ws i) a b c d e f g h), [(binD .lss .i64 i 80, true), (binD .lss .i64 i 16, false)]) := by kernel_rfl
theorem step_end {a b c d e f g h i : Int} {ws bl : List Int} : l2B.stepP Cb_sha512_blockGeneric [false] [[a], [b], [c], [d], [e], [f], [g], [h], [i], ws, bl] = some ((false, [[a], [b], [c], [d], [e], [f], [g], [h], [i], ws, bl]), [(binD .lss .i64 i 80, false)]) := by kernel_rfl
end Go.Proofs.YtloibefkijfdlaaGreatDoor
