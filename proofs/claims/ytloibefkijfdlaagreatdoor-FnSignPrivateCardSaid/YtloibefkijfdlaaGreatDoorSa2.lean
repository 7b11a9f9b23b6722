/- SHA-512 in plain words: all rounds of a block. -/
import Derived.Test.YtloibefkijfdlaaGreatDoorSa1
namespace Go.Proofs.YtloibefkijfdlaaGreatDoor
open Go
structure V8 where
 a : Int
 b : Int
 c : Int
 d : Int
 e : Int
 f : Int
 g : Int
 h : Int
def V8.l (v : V8) : List Int := [v.a, v.b, v.c, v.d, v.e, v.f, v.g, v.h]
def V8.ls (v : V8) : List (List Int) := [[v.a], [v.b], [v.c], [v.d], [v.e], [v.f], [v.g], [v.h]]
def V8.of (l : List Int) : V8 := ⟨l.getD 0 0, l.getD 1 0, l.getD 2 0, l.getD 3 0, l.getD 4 0, l.getD 5 0, l.getD 6 0, l.getD 7 0⟩
def rndV (v : V8) (k w : Int) : V8 :=
 let t := T1 k v.e v.f v.g v.h w
 ⟨o64 .add t (T2 v.a v.b v.c), v.a, v.b, v.c, o64 .add v.d t, v.e, v.f, v.g⟩
def bN (bl : List Int) (j : Nat) : Int := IntKind.u64.wrap (bl.getD j 0)
def wdN (bl : List Int) (j : Nat) : Int :=
 o64 .or (o64 .or (o64 .or (o64 .or (o64 .or (o64 .or (o64 .or (o64 .shl (bN bl j) 56) (o64 .shl (bN bl (j + 1)) 48)) (o64 .shl (bN bl (j + 2)) 40)) (o64 .shl (bN bl (j + 3)) 32)) (o64 .shl (bN bl (j + 4)) 24)) (o64 .shl (bN bl (j + 5)) 16)) (o64 .shl (bN bl (j + 6)) 8)) (bN bl (j + 7))
def nwN (ws : List Int) (i : Nat) : Int := o64 .add (o64 .add (o64 .add (s1w (ws.getD (i - 2) 0)) (ws.getD (i - 7) 0)) (s0w (ws.getD (i - 15) 0))) (ws.getD (i - 16) 0)
def wiN (bl ws : List Int) (n : Nat) : Int := if n < 16 then wdN bl (n * 8) else nwN ws n
def sch (bl : List Int) : Nat → List Int
 | 0 => []
 | n + 1 => sch bl n ++ [wiN bl (sch bl n) n]
theorem sch_len (bl : List Int) : ∀ n, (sch bl n).length = n
 | 0 => rfl
 | n + 1 => by simp [sch, sch_len bl n]
def rV (bl : List Int) (v : V8) : Nat → V8
 | 0 => v
 | n + 1 => rndV (rV bl v n) (kTab.getD n 0) (wiN bl (sch bl n) n)
def cpr (h bl : List Int) : List Int := List.zipWith (o64 .add) h (rV bl (V8.of h) 80).l
def cprN : Nat → List Int → List Int → List Int
 | 0, h, _ => h
 | n + 1, h, xs => cprN n (cpr h (xs.take 128)) (xs.drop 128)
theorem wr64 {x : Int} (h : -9223372036854775808 ≤ x) (h2 : x ≤ 9223372036854775807) : IntKind.i64.wrap x = x := wrap_in (k := .i64) ⟨h, h2⟩
theorem ai_nat {j k : Nat} (h : j + k < 1000000) : ai (j : Int) (k : Int) = ((j + k : Nat) : Int) := by
 show IntKind.i64.wrap ((j : Int) + k) = _
 rw [wr64 (by omega) (by omega)]; omega
theorem si_nat {j k : Nat} (h : j < 1000000) (hk : k ≤ j) : si (j : Int) (k : Int) = ((j - k : Nat) : Int) := by
 show IntKind.i64.wrap ((j : Int) - k) = _
 rw [wr64 (by omega) (by omega)]; omega
theorem mi_nat {j k : Nat} (h : j * k < 1000000) : binD .mul .i64 (j : Int) (k : Int) = ((j * k : Nat) : Int) := by
 show IntKind.i64.wrap ((j : Int) * k) = _
 have e : (j : Int) * k = ((j * k : Nat) : Int) := by push_cast; rfl
 rw [e, wr64 (by omega) (by omega)]
theorem b8_nat (bl : List Int) (j : Nat) : b8 bl (j : Int) = bN bl j := by simp [b8, bN]
theorem wd_nat (bl : List Int) {j : Nat} (h : j < 1000) : wd bl (j : Int) = wdN bl j := by
 unfold wd wdN
 have e : ∀ k : Nat, k < 8 → b8 bl (ai (j : Int) (k : Int)) = bN bl (j + k) := fun k hk => by
  rw [ai_nat (by omega), b8_nat]
 have e1 : b8 bl (ai (j : Int) 1) = bN bl (j + 1) := e 1 (by omega)
 have e2 : b8 bl (ai (j : Int) 2) = bN bl (j + 2) := e 2 (by omega)
 have e3 : b8 bl (ai (j : Int) 3) = bN bl (j + 3) := e 3 (by omega)
 have e4 : b8 bl (ai (j : Int) 4) = bN bl (j + 4) := e 4 (by omega)
 have e5 : b8 bl (ai (j : Int) 5) = bN bl (j + 5) := e 5 (by omega)
 have e6 : b8 bl (ai (j : Int) 6) = bN bl (j + 6) := e 6 (by omega)
 have e7 : b8 bl (ai (j : Int) 7) = bN bl (j + 7) := e 7 (by omega)
 rw [b8_nat, e1, e2, e3, e4, e5, e6, e7]
theorem wat_nat (ws : List Int) (j : Nat) : wat ws (j : Int) = ws.getD j 0 := by simp [wat]
theorem nw_nat {ws ys : List Int} {n : Nat} (h : 16 ≤ n) (h2 : n < 80) (hl : ws.length = n) : nw (ws ++ ys) (n : Int) = nwN ws n := by
 unfold nw nwN
 have e : ∀ k : Nat, 0 < k → k ≤ 16 → wat (ws ++ ys) (si (n : Int) (k : Int)) = ws.getD (n - k) 0 := fun k h0 hk => by
  rw [si_nat (by omega) (by omega), wat_nat]
  simp only [List.getD]
  rw [List.getElem?_append_left (by omega)]
 have e2 : wat (ws ++ ys) (si (n : Int) 2) = ws.getD (n - 2) 0 := e 2 (by omega) (by omega)
 have e7 : wat (ws ++ ys) (si (n : Int) 7) = ws.getD (n - 7) 0 := e 7 (by omega) (by omega)
 have e15 : wat (ws ++ ys) (si (n : Int) 15) = ws.getD (n - 15) 0 := e 15 (by omega) (by omega)
 have e16 : wat (ws ++ ys) (si (n : Int) 16) = ws.getD (n - 16) 0 := e 16 (by omega) (by omega)
 rw [e2, e7, e15, e16]
theorem set_next {ws ys : List Int} {n : Nat} {x : Int} (hl : ws.length = n) (hy : 0 < ys.length) : (ws ++ ys).set n x = (ws ++ [x]) ++ ys.drop 1 := by
 subst hl
 rw [List.set_append_right _ _ (Nat.le_refl _), Nat.sub_self, List.append_assoc]
 match ys, hy with
 | y :: ys, _ => rfl
theorem lss_t {i j : Nat} (h : i < j) : binD .lss .i64 (i : Int) (j : Int) = 1 := by
 show b01 (decide ((i : Int) < j)) = 1
 rw [decide_eq_true (by omega)]; rfl
theorem lss_f {i j : Nat} (h : j ≤ i) : binD .lss .i64 (i : Int) (j : Int) = 0 := by
 show b01 (decide ((i : Int) < j)) = 0
 rw [decide_eq_false (by omega)]; rfl
theorem rOut_eq {bl ws ys : List Int} {n : Nat} {x : Int} {v : V8} (hn : n < 80) (hl : ws.length = n) (hy : 0 < ys.length) : rOut bl (ws ++ ys) (n : Int) x v.a v.b v.c v.d v.e v.f v.g v.h = (rndV v (kTab.getD n 0) x).ls ++ [[((n + 1 : Nat) : Int)], (ws ++ [x]) ++ ys.drop 1, bl] := by
 have e1 : ai (n : Int) 1 = ((n + 1 : Nat) : Int) := ai_nat (j := n) (k := 1) (by omega)
 unfold rOut
 simp only [e1, wat_nat, Int.toNat_natCast, set_next hl hy]
 have e2 : (ws ++ [x] ++ ys.drop 1).getD n 0 = x := by
  simp only [List.getD, List.append_assoc]
  rw [List.getElem?_append_right (by omega), hl, Nat.sub_self]; rfl
 rw [e2]; rfl
theorem step_n {bl ys : List Int} {n : Nat} {v : V8} (hn : n < 80) (hy : 0 < ys.length) : l2B.step Cb_sha512_blockGeneric (v.ls ++ [[(n : Int)], sch bl n ++ ys, bl]) = some (true, (rndV v (kTab.getD n 0) (wiN bl (sch bl n) n)).ls ++ [[((n + 1 : Nat) : Int)], sch bl (n + 1) ++ ys.drop 1, bl]) := by
 have h80 : binD .lss .i64 (n : Int) 80 = 1 := lss_t (j := 80) hn
 by_cases h : n < 16
 ·have h16 : binD .lss .i64 (n : Int) 16 = 1 := lss_t (j := 16) h
  have := LpI.stepP_ok (@step_lo v.a v.b v.c v.d v.e v.f v.g v.h (n : Int) (sch bl n ++ ys) bl) (fun c hc => by
   simp only [List.mem_cons, List.not_mem_nil, or_false] at hc
   rcases hc with rfl | rfl
   ·simp [h80]
   ·simp [h16])
  have e8 : binD .mul .i64 (n : Int) 8 = ((n * 8 : Nat) : Int) := mi_nat (j := n) (k := 8) (by omega)
  rw [e8, wd_nat bl (by omega), rOut_eq hn (sch_len bl n) hy] at this
  rw [show wiN bl (sch bl n) n = wdN bl (n * 8) by unfold wiN; rw [if_pos h]]
  rw [show sch bl (n + 1) = sch bl n ++ [wdN bl (n * 8)] by show sch bl n ++ [wiN bl (sch bl n) n] = _; unfold wiN; rw [if_pos h]]
  exact this
 ·have h16 : binD .lss .i64 (n : Int) 16 = 0 := lss_f (j := 16) (by omega)
  have := LpI.stepP_ok (@step_hi v.a v.b v.c v.d v.e v.f v.g v.h (n : Int) (sch bl n ++ ys) bl) (fun c hc => by
   simp only [List.mem_cons, List.not_mem_nil, or_false] at hc
   rcases hc with rfl | rfl
   ·simp [h80]
   ·simp [h16])
  rw [nw_nat (by omega) hn (sch_len bl n), rOut_eq hn (sch_len bl n) hy] at this
  rw [show wiN bl (sch bl n) n = nwN (sch bl n) n by unfold wiN; rw [if_neg h]]
  rw [show sch bl (n + 1) = sch bl n ++ [nwN (sch bl n) n] by show sch bl n ++ [wiN bl (sch bl n) n] = _; unfold wiN; rw [if_neg h]]
  exact this
theorem step_80 {bl ws : List Int} {v : V8} : l2B.step Cb_sha512_blockGeneric (v.ls ++ [[80], ws, bl]) = some (false, v.ls ++ [[80], ws, bl]) :=
 LpI.stepP_ok (@step_end v.a v.b v.c v.d v.e v.f v.g v.h 80 ws bl) (fun c hc => by
  simp only [List.mem_singleton] at hc
  subst hc
  exact ⟨fun _ => rfl, fun _ => by decide⟩)
theorem run_n {bl : List Int} {v0 : V8} : ∀ (m n : Nat) {ys : List Int}, n + m = 80 → ys.length = m → lpRun (l2B.step Cb_sha512_blockGeneric) (m + 1) ((rV bl v0 n).ls ++ [[(n : Int)], sch bl n ++ ys, bl]) = (rV bl v0 80).ls ++ [[80], sch bl 80, bl]
 | 0, n, ys, hn, hy => by
  have : n = 80 := by omega
  subst this
  have : ys = [] := List.eq_nil_of_length_eq_zero hy
  subst this
  rw [List.append_nil]
  unfold lpRun
  rw [show ((80 : Nat) : Int) = 80 from rfl, step_80]
 | m + 1, n, ys, hn, hy => by
  unfold lpRun
  rw [step_n (by omega) (by omega)]
  exact run_n m (n + 1) (by omega) (by simp [hy])
theorem run_all {bl ws : List Int} {v : V8} (h : ws.length = 80) : lpRun (l2B.step Cb_sha512_blockGeneric) 81 (v.ls ++ [[0], ws, bl]) = (rV bl v 80).ls ++ [[80], sch bl 80, bl] :=
 run_n (bl := bl) (v0 := v) 80 0 (by omega) h
end Go.Proofs.YtloibefkijfdlaaGreatDoor
