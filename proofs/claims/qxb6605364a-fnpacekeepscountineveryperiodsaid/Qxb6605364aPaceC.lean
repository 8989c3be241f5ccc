/-
  WALKS: a tree head is signed (13, 10); the bound (9).
-/
import Derived.Test.Qxb6605364aPaceA
import Derived.BigRegion
import Derived.WalkSmall
import Derived.Deep.DeepCutAuto
import Derived.Deep.CutBlock
namespace Go.Proofs.Qxb6605364a
open Go.RowKit Go.Deep Go.ChangeAt Go.WideShapes Go.ChangeShapes

/-- A pace as a row of four cells. -/
def four (a b c d : Int) (j : Nat) : Value := if j = 0 then .int .u64 a else if j = 1 then .int .u64 b else if j = 2 then .int .u64 c else .int .u64 d

theorem row_pace (w : World) (iv tol nx ga : Int) : (w.alloc (.cells #[.int .u64 iv, .int .u64 tol, .int .u64 nx, .int .u64 ga] 34)).rowIs w.heap.size 34 4 (four iv tol nx ga) := by
  refine World.rowIs_alloc w #[.int .u64 iv, .int .u64 tol, .int .u64 nx, .int .u64 ga] 34 _ ?_
  intro i hi
  match i, hi with
  | 0, _ => rfl
  | 1, _ => rfl
  | 2, _ => rfl
  | 3, _ => rfl

theorem bytes9 (m c : Int) (ad : Option Addr) (len cap : Nat) (w : World) (hl : len ≤ 9223372036854775807) :
    Calls Try.prog 9 #[.int .u64 m, .int .u64 c, .slice ad len cap] w fun e w' => (∃ b : Bool, e = .returned (.bool b)) ∧ w' = w := by
  go_enter Try.func9, Try.ntmps9
  go_wp2
  all_goals
    go_ret
    exact ⟨⟨_, rfl⟩, rfl⟩

theorem below_set {B : Nat} {w w' : World} (h : Below B w w') {g off : Nat} (hg : B ≤ g) (v : Value) : Below B w (w'.setCell ⟨g, off, none⟩ v) := h.setCell (show B ≤ (⟨g, off, none⟩ : Addr).block from hg) v

def nextN (iv nx t : Int) : Int := (if nx < t then t else nx) + iv
def gath (iv tol nx t : Int) : Int := ((if nx < t then t else nx) - t) / (if tol / iv < 1 then 1 else tol / iv)

theorem four_set2 (a b c d v : Int) (j : Nat) : (if j = 2 then Value.int .u64 v else four a b c d j) = four a b v d j := by
  unfold four
  by_cases h : j = 2
  · subst h; rfl
  · simp [h]
theorem four_set3 (a b c d v : Int) (j : Nat) (hj : j < 4) : (if j = 3 then Value.int .u64 v else four a b c d j) = four a b c v j := by
  unfold four
  by_cases h : j = 3
  · subst h; rfl
  · have : j = 0 ∨ j = 1 ∨ j = 2 := by omega
    rcases this with h | h | h <;> subst h <;> rfl

set_option maxRecDepth 100000 in
set_option maxHeartbeats 1000000 in
theorem signed13 (g : Nat) (iv tol nx ga t : Int) (w : World) (hrow : w.rowIs g 34 4 (four iv tol nx ga)) (i0 : 1 ≤ iv) (t0 : 0 ≤ tol) (t1 : tol ≤ 18446744073709551615) (s0 : 0 ≤ t) (hb : nextN iv nx t ≤ 18446744073709551615) :
    Calls Try.prog 13 #[.pointer (some ⟨g, 0, none⟩), .int .u64 t] w fun e w' => e = .returned (.tuple #[]) ∧ w'.rowIs g 34 4 (four iv tol (nextN iv nx t) (gath iv tol nx t)) ∧ Below g w w' := by
  have k0 : w.cell? ⟨g, 0, none⟩ = some (.int .u64 iv) := hrow.cell (i := 0) (by omega)
  have k1 : w.cell? ⟨g, 1, none⟩ = some (.int .u64 tol) := hrow.cell (i := 1) (by omega)
  have k2 : w.cell? ⟨g, 2, none⟩ = some (.int .u64 nx) := hrow.cell (i := 2) (by omega)
  have f2 := hrow.frozen 2
  obtain ⟨mx, hmx⟩ : ∃ mx, (if nx < t then t else nx) = mx := ⟨_, rfl⟩
  have hm1 : t ≤ mx := by rw [← hmx]; split <;> omega
  obtain ⟨q, hq⟩ : ∃ q, tol / iv = q := ⟨_, rfl⟩
  obtain ⟨q1, hq1⟩ : ∃ q1, (if q < 1 then 1 else q) = q1 := ⟨_, rfl⟩
  have hqb := IntWalk.tdiv_le tol iv t0 i0
  have hq2 : 1 ≤ q1 ∧ q1 ≤ 18446744073709551615 := by rw [← hq1, ← hq]; split <;> omega
  have hgb := IntWalk.tdiv_le (mx - t) q1 (by omega) hq2.1
  obtain ⟨GA, hGA⟩ : ∃ GA, (mx - t) / q1 = GA := ⟨_, rfl⟩
  have hN : nextN iv nx t = mx + iv := by unfold nextN; rw [hmx]
  have hG : gath iv tol nx t = GA := by unfold gath; rw [hmx, hq, hq1, hGA]
  rw [hN] at hb ⊢
  rw [hG]
  obtain ⟨hq21, hq22⟩ := hq2
  rw [hq] at hqb
  rw [hGA] at hgb
  obtain ⟨hg1, hg2⟩ := hgb
  obtain ⟨hqb1, hqb2⟩ := hqb
  clear hN hG
  go_enter Try.func13, Try.ntmps13
  go_upto_region 0 with fail
  go_cut [] (fun wc => wc.rowIs g 34 4 (four iv tol (mx + iv) ga) ∧ Below g w wc)
  case first =>
    go_region
    all_goals
      go_wp2
      go_meet
      refine ⟨((hrow.set 2 _).drew).congr ?_, (below_set (Below.refl _ _) (Nat.le_refl _) _).drew⟩
      intro j _
      exact four_set2 _ _ _ _ _ j
  case rest =>
    clear k0 k1 k2 f2 hrow
    obtain ⟨hrow, hbl⟩ := hcut
    have k0 : wc.cell? ⟨g, 0, none⟩ = some (.int .u64 iv) := hrow.cell (i := 0) (by omega)
    have k1 : wc.cell? ⟨g, 1, none⟩ = some (.int .u64 tol) := hrow.cell (i := 1) (by omega)
    have k2 : wc.cell? ⟨g, 2, none⟩ = some (.int .u64 (mx + iv)) := hrow.cell (i := 2) (by omega)
    have k3 : wc.cell? ⟨g, 3, none⟩ = some (.int .u64 ga) := hrow.cell (i := 3) (by omega)
    have f3 := hrow.frozen 3
    go_wp2
    go_region
    all_goals
      go_wp2
      go_end0
      refine ⟨rfl, ((hrow.set 3 _).drew).congr ?_, (below_set hbl (Nat.le_refl _) _).drew⟩
      intro j hj
      exact four_set3 _ _ _ _ _ j hj

set_option maxRecDepth 100000 in
set_option maxHeartbeats 1000000 in
theorem signed10 (iv tol nx ga t : Int) (w : World) (i0 : 1 ≤ iv) (t0 : 0 ≤ tol) (t1 : tol ≤ 18446744073709551615) (s0 : 0 ≤ t) (hb : nextN iv nx t ≤ 18446744073709551615) :
    Calls Try.prog 10 #[.int .u64 iv, .int .u64 tol, .int .u64 nx, .int .u64 ga, .int .u64 t] w fun e w' => e = .returned (.tuple #[.int .u64 iv, .int .u64 tol, .int .u64 (nextN iv nx t), .int .u64 (gath iv tol nx t)]) ∧ Below w.heap.size w w' := by
  have hc := signed13 w.heap.size iv tol nx ga t _ (row_pace w iv tol nx ga) i0 t0 t1 s0 hb
  have hbl : Below w.heap.size w (w.alloc (.cells #[.int .u64 iv, .int .u64 tol, .int .u64 nx, .int .u64 ga] 34)) := (Below.refl _ _).alloc (Nat.le_refl _) _
  obtain ⟨N, hN⟩ : ∃ N, nextN iv nx t = N := ⟨_, rfl⟩
  obtain ⟨G, hG⟩ : ∃ G, gath iv tol nx t = G := ⟨_, rfl⟩
  rw [hN, hG] at hc ⊢
  clear hN hG hb
  go_enter Try.func10, Try.ntmps10
  go_wp2_with fail
  refine hc.mono ?_
  rintro e w1 ⟨rfl, hrow, hb1⟩
  have k0 : w1.cell? ⟨w.heap.size, 0, none⟩ = some (.int .u64 iv) := hrow.cell (i := 0) (by omega)
  have k1 : w1.cell? ⟨w.heap.size, 1, none⟩ = some (.int .u64 tol) := hrow.cell (i := 1) (by omega)
  have k2 : w1.cell? ⟨w.heap.size, 2, none⟩ = some (.int .u64 N) := hrow.cell (i := 2) (by omega)
  have k3 : w1.cell? ⟨w.heap.size, 3, none⟩ = some (.int .u64 G) := hrow.cell (i := 3) (by omega)
  have hb2 := hbl.trans hb1
  clear hbl hb1 hrow
  go_wp2
  go_quiet (fail)
  go_wp2
  refine bodyPost_ret (v := .tuple #[.int .u64 iv, .int .u64 tol, .int .u64 N, .int .u64 G]) ?_ rfl ?_
  · simp [results, Try.results10, go_sem]
  · exact ⟨rfl, below_drewN hb2 _⟩
end Go.Proofs.Qxb6605364a
