/-
  WALKS: the pace: made (11, 6), its earliest time (12, 7), the plain test (8).
-/
import Derived.Test.Qxb6605364aProg
import Derived.WalkKit
import Derived.WalkSpells
import Derived.WalkLawsBesides
import Derived.Deep.OwnRows
import Derived.Deep.QuietTactic
import Derived.BigQuiet
import Derived.Deep.LoopGhost
import Derived.Outline
import Derived.ProofKit
import Derived.Lib.SliceRun
namespace Go.Proofs.Qxb6605364a
open Go.RowKit Go.Deep Go.ChangeAt Go.WideShapes Go.ChangeShapes

theorem Grown.trans' {a b c : World} (h : Grown a b) (k : Grown b c) : Grown a c :=
  ⟨World.keptBut_trans h.1 (World.keptBut_mono (fun _ f => f.elim) k.1), fun x => (k.2.1 x).trans (h.2.1 x), Nat.le_trans h.2.2 k.2.2⟩

/-- The four fields of a pace at block g. -/
structure PaceAt (w : World) (g : Nat) (iv tol nx ga : Int) : Prop where
  f0 : w.cell? ⟨g, 0, none⟩ = some (.int .u64 iv)
  f1 : w.cell? ⟨g, 1, none⟩ = some (.int .u64 tol)
  f2 : w.cell? ⟨g, 2, none⟩ = some (.int .u64 nx)
  f3 : w.cell? ⟨g, 3, none⟩ = some (.int .u64 ga)

theorem cell_box (w : World) (c : Array Value) (t : TypeId) (i : Nat) (v : Value) (h : c[i]? = some v) : (w.alloc (.cells c t)).cell? ⟨w.heap.size, i, none⟩ = some v := by
  simp only [World.cell?]
  rw [(MapKept.heap_alloc w _).1]
  exact h

def early (tol nx : Int) : Int := if nx < tol then 0 else nx - tol

theorem earliest12 (g : Nat) (iv tol nx ga : Int) (w : World) (h : PaceAt w g iv tol nx ga) (t0 : 0 ≤ tol) (n1 : nx ≤ 18446744073709551615) :
    Calls Try.prog 12 #[.pointer (some ⟨g, 0, none⟩)] w fun e w' => e = .returned (.int .u64 (early tol nx)) ∧ ∃ n, w' = w.drewN n := by
  obtain ⟨h0, h1, h2, h3⟩ := h
  obtain ⟨E, hE⟩ : ∃ E, early tol nx = E := ⟨_, rfl⟩
  rw [hE]
  unfold early at hE
  by_cases hlt : nx < tol
  · rw [if_pos hlt] at hE
    subst hE
    go_enter Try.func12, Try.ntmps12
    go_wp2
    go_quiet (fail)
    go_wp2
    go_ret
    exact ⟨rfl, _, rfl⟩
  · rw [if_neg hlt] at hE
    have HE : Hid (nx - tol = E) := hE
    have hwr : IntKind.u64.wrap (nx - tol) = nx - tol := IntWalk.u64_in _ ⟨by omega, by omega⟩
    clear hE
    go_enter Try.func12, Try.ntmps12
    go_wp2
    go_quiet (fail)
    go_wp2
    go_quiet (fail)
    go_wp2
    go_ret
    exact ⟨congrArg (fun x => Ending.returned (.int .u64 x)) HE.out, _, World.drewN_drewN _ _ _⟩

theorem allowed8 (x tol nx : Int) (w : World) (b : Bool) (x0 : 0 ≤ x) (n1 : nx ≤ 18446744073709551615) (hb : b = decide (nx ≤ x ∨ nx - x ≤ tol)) :
    Calls Try.prog 8 #[.int .u64 x, .int .u64 tol, .int .u64 nx] w fun e w' => e = .returned (.bool b) ∧ w' = w := by
  by_cases h : nx ≤ x
  · have e : b = true := by rw [hb]; exact decide_eq_true (.inl h)
    subst e
    clear hb
    go_enter Try.func8, Try.ntmps8
    go_wp2
    go_ret
    exact ⟨rfl, rfl⟩
  · have e : b = decide (nx - x ≤ tol) := by rw [hb]; simp [h]
    subst e
    clear hb
    go_enter Try.func8, Try.ntmps8
    go_wp2
    go_ret
    exact ⟨rfl, rfl⟩

theorem box_pace (w : World) (iv tol nx ga : Int) : PaceAt (w.alloc (.cells #[.int .u64 iv, .int .u64 tol, .int .u64 nx, .int .u64 ga] 34)) w.heap.size iv tol nx ga :=
  ⟨cell_box w _ 34 0 _ rfl, cell_box w _ 34 1 _ rfl, cell_box w _ 34 2 _ rfl, cell_box w _ 34 3 _ rfl⟩

theorem early7 (iv tol nx ga : Int) (w : World) (t0 : 0 ≤ tol) (n1 : nx ≤ 18446744073709551615) :
    Calls Try.prog 7 #[.int .u64 iv, .int .u64 tol, .int .u64 nx, .int .u64 ga] w fun e w' => e = .returned (.tuple #[.int .u64 (early tol nx), .int .u64 iv, .int .u64 tol, .int .u64 nx, .int .u64 ga]) ∧ ∃ n, w' = (w.alloc (.cells #[.int .u64 iv, .int .u64 tol, .int .u64 nx, .int .u64 ga] 34)).drewN n := by
  have hb := box_pace w iv tol nx ga
  have hc := earliest12 w.heap.size iv tol nx ga _ hb t0 n1
  obtain ⟨h0, h1, h2, h3⟩ := hb
  obtain ⟨E, hE⟩ : ∃ E, early tol nx = E := ⟨_, rfl⟩
  rw [hE] at hc ⊢
  clear hE
  go_enter Try.func7, Try.ntmps7
  go_wp2_with (go_at_call 12; refine hc.mono ?_; rintro e w' ⟨rfl, n, rfl⟩)
  go_quiet (fail)
  go_wp2
  refine bodyPost_ret (v := .tuple #[.int .u64 E, .int .u64 iv, .int .u64 tol, .int .u64 nx, .int .u64 ga]) ?_ rfl ?_
  · simp [results, Try.results7, go_sem]
  · exact ⟨rfl, _, World.drewN_drewN _ _ _⟩

/-! ### the pace that is made, plainly -/
def pI (m c : Int) : Int := (m + (c - c / 10) - 1) / (c - c / 10)
def pT (m c : Int) : Int := c / 10 * pI m c

theorem pI_mul (m c : Int) (m0 : 0 ≤ m) (c0 : 2 ≤ c) : 0 ≤ pI m c ∧ m ≤ (c - c / 10) * pI m c ∧ (c - c / 10) * pI m c ≤ m + (c - c / 10) - 1 := by
  unfold pI
  have hd : 2 ≤ c - c / 10 := by omega
  generalize c - c / 10 = d at *
  have h1 := Int.mul_ediv_add_emod (m + d - 1) d
  have h2 := Int.emod_nonneg (m + d - 1) (show d ≠ 0 by omega)
  have h3 := Int.emod_lt_of_pos (m + d - 1) (show 0 < d by omega)
  have h4 : 0 ≤ (m + d - 1) / d := Int.ediv_nonneg (by omega) (by omega)
  omega

theorem pT_le (m c : Int) (m0 : 0 ≤ m) (c0 : 2 ≤ c) : 0 ≤ pT m c ∧ 9 * pT m c ≤ m + (c - c / 10) - 1 := by
  obtain ⟨h0, _, h2⟩ := pI_mul m c m0 c0
  unfold pT
  generalize pI m c = I at *
  have hb : 0 ≤ c / 10 := by omega
  have h9 : 9 * (c / 10) ≤ c - c / 10 := by omega
  have := Int.mul_le_mul_of_nonneg_right h9 h0
  rw [Int.mul_assoc] at this
  exact ⟨Int.mul_nonneg hb h0, by omega⟩

theorem new11 (m c : Int) (w : World) (m0 : 0 ≤ m) (m1 : m ≤ 18446744073709551615) (c0 : 2 ≤ c) (c1 : c ≤ 18446744073709551615) (hs : m + (c - c / 10) - 1 ≤ 18446744073709551615) :
    Calls Try.prog 11 #[.int .u64 m, .int .u64 c] w fun e w' => e = .returned (.agg #[.int .u64 (pI m c), .int .u64 (pT m c), .int .u64 0, .int .u64 0]) ∧ w' = w.alloc (.cells #[.int .u64 (pI m c), .int .u64 (pT m c), .int .u64 0, .int .u64 0] 34) := by
  obtain ⟨t0, t1⟩ := pT_le m c m0 c0
  obtain ⟨i0, _, _⟩ := pI_mul m c m0 c0
  have hw : IntKind.u64.wrap (IntKind.u64.wrap (IntKind.u64.wrap (m + c) - c / 10) - 1) = m + (c - c / 10) - 1 := by
    simp only [IntKind.wrap_u64]; omega
  have hq : IntKind.u64.wrap ((m + (c - c / 10) - 1).tdiv (c - c / 10)) = pI m c := by
    rw [Int.tdiv_eq_ediv_of_nonneg (by omega)]
    have := IntWalk.tdiv_le (m + (c - c / 10) - 1) (c - c / 10) (by omega) (by omega)
    exact IntWalk.u64_in _ (by omega)
  have ht : IntKind.u64.wrap (c / 10 * pI m c) = pT m c := IntWalk.u64_in _ ⟨t0, by have : c / 10 * pI m c = pT m c := rfl; omega⟩
  have hbox := fun I T => box_pace w I T 0 0
  go_enter Try.func11, Try.ntmps11
  go_wp2

  obtain ⟨j0, j1, j2, j3⟩ := hbox (pI m c) (pT m c)
  refine bodyPost_ret (v := .agg #[.int .u64 (pI m c), .int .u64 (pT m c), .int .u64 0, .int .u64 0]) ?_ rfl ?_
  · simp [results, Try.results11, go_sem, j0, j1, j2, j3]
  · exact ⟨rfl, rfl⟩

theorem new6 (m c : Int) (w : World) (m0 : 0 ≤ m) (m1 : m ≤ 18446744073709551615) (c0 : 2 ≤ c) (c1 : c ≤ 18446744073709551615) (hs : m + (c - c / 10) - 1 ≤ 18446744073709551615) :
    Calls Try.prog 6 #[.int .u64 m, .int .u64 c] w fun e w' => e = .returned (.tuple #[.int .u64 (pI m c), .int .u64 (pT m c), .int .u64 0, .int .u64 0]) ∧ ∃ n, w' = ((w.alloc (.cells #[.int .u64 (pI m c), .int .u64 (pT m c), .int .u64 0, .int .u64 0] 34)).alloc (.cells #[.int .u64 (pI m c), .int .u64 (pT m c), .int .u64 0, .int .u64 0] 34)).drewN n := by
  have hc := new11 m c w m0 m1 c0 c1 hs
  obtain ⟨I, hI⟩ : ∃ I, pI m c = I := ⟨_, rfl⟩
  obtain ⟨T, hT⟩ : ∃ T, pT m c = T := ⟨_, rfl⟩
  rw [hI, hT] at hc ⊢
  clear hI hT
  obtain ⟨j0, j1, j2, j3⟩ := box_pace (w.alloc (.cells #[.int .u64 I, .int .u64 T, .int .u64 0, .int .u64 0] 34)) I T 0 0
  go_enter Try.func6, Try.ntmps6
  go_wp2_with (go_at_call 11; refine hc.mono ?_; rintro e w' ⟨rfl, rfl⟩)
  go_quiet (fail)
  go_wp2
  refine bodyPost_ret (v := .tuple #[.int .u64 I, .int .u64 T, .int .u64 0, .int .u64 0]) ?_ rfl ?_
  · simp [results, Try.results6, go_sem]
  · exact ⟨rfl, _, rfl⟩
end Go.Proofs.Qxb6605364a
