/-
  WALKS: the laws 'FnEarliestIsLeastAllowedTime' (4) and 'FnNewPaceIsLeastEvenSpacing' (3).
-/
import Derived.Test.Qxb6605364aPaceA
namespace Go.Proofs.Qxb6605364a
open Go.RowKit Go.Deep Go.ChangeAt Go.WideShapes Go.ChangeShapes

theorem grown_box (w : World) (c : Array Value) (t : TypeId) (n : Nat) : Grown w ((w.alloc (.cells c t)).drewN n) := (Grown.refl w).alloc c t

set_option maxRecDepth 100000 in
set_option maxHeartbeats 2000000 in
theorem law4 (iv tol nx ga : Int) (w : World) (t0 : 0 ≤ tol) (t1 : tol ≤ 18446744073709551615) (n0 : 0 ≤ nx) (n1 : nx ≤ 18446744073709551615) :
    Calls Try.prog 4 #[.int .u64 iv, .int .u64 tol, .int .u64 nx, .int .u64 ga] w fun e w' => e = .returned (.bool true) ∧ Grown w w' := by
  have hE := early7 iv tol nx ga w t0 n1
  obtain ⟨E, hEe⟩ : ∃ E, early tol nx = E := ⟨_, rfl⟩
  have hF : 0 ≤ E ∧ E ≤ 18446744073709551615 ∧ (nx ≤ E ∨ nx - E ≤ tol) ∧ (E = 0 ∨ ¬ (nx ≤ E - 1 ∨ nx - (E - 1) ≤ tol)) := by
    rw [← hEe]; unfold early; split <;> omega
  rw [hEe] at hE
  clear hEe
  obtain ⟨e0, e1, hA, hB⟩ := hF
  have h1 := fun w => allowed8 E tol nx w true e0 n1 (decide_eq_true hA).symm
  by_cases hz : E = 0
  · subst hz
    clear hA hB
    go_enter Try.func4, Try.ntmps4
    go_wp2_with (first | (go_at_call 7; refine hE.mono ?_; rintro e w1 ⟨rfl, hw1⟩) | (go_at_call 8; refine (h1 _).mono ?_; rintro e w2 ⟨rfl, hw2⟩; subst hw2))
    go_ret
    obtain ⟨n, rfl⟩ := hw1
    exact ⟨rfl, grown_box _ _ _ _⟩
  · have hN : ¬ (nx ≤ E - 1 ∨ nx - (E - 1) ≤ tol) := by omega
    have h2 := fun w => allowed8 (E - 1) tol nx w false (by omega) n1 (decide_eq_false hN).symm
    clear hA hB hN
    go_enter Try.func4, Try.ntmps4
    go_wp2_with fail
    refine hE.mono ?_
    rintro e w1 ⟨rfl, hw1⟩
    go_wp2_with fail
    refine (h1 _).mono ?_
    rintro e w2 ⟨rfl, hw2⟩
    subst hw2
    go_wp2_with fail
    refine (h2 _).mono ?_
    rintro e w3 ⟨rfl, hw3⟩
    subst hw3
    go_wp2
    go_ret
    obtain ⟨n, rfl⟩ := hw1
    exact ⟨rfl, grown_box _ _ _ _⟩

/-! ### the even spacing, plainly -/
theorem even_facts (m c : Int) (m0 : 1 ≤ m) (c0 : 2 ≤ c) :
    1 ≤ pI m c ∧ (pI m c - 1) * (c - c / 10) < m ∧ m - (c - c / 10) ≤ (pI m c - 1) * (c - c / 10) ∧ 0 ≤ (pI m c - 1) * (c - c / 10) ∧ pI m c ≤ m / 2 + m % 2 ∧ pT m c / pI m c = c / 10 ∧ pT m c % pI m c = 0 := by
  obtain ⟨i0, h1, h2⟩ := pI_mul m c (by omega) c0
  have hd : 2 ≤ c - c / 10 := by omega
  unfold pT
  generalize pI m c = I at *
  generalize hdd : c - c / 10 = d at *
  have hI : 1 ≤ I := by
    by_cases h : I = 0
    · subst h; simp at h1; omega
    · omega
  have e : (I - 1) * d = d * I - d := by rw [Int.sub_mul, Int.one_mul, Int.mul_comm]
  have hx : 0 ≤ (I - 1) * d := Int.mul_nonneg (by omega) (by omega)
  have h2I : 2 * (I - 1) ≤ d * (I - 1) := Int.mul_le_mul_of_nonneg_right hd (by omega)
  rw [Int.mul_comm d (I - 1)] at h2I
  refine ⟨hI, by omega, by omega, hx, by omega, ?_, ?_⟩
  · exact Int.mul_ediv_cancel _ (by omega)
  · exact Int.mul_emod_left _ _

/-- A product of parts within the range: neither part is above its share. -/
theorem share (a d : Int) (ha : 1 ≤ a) (h : a * d ≤ 18446744073709551615) : d ≤ 18446744073709551615 / a := by
  rw [Int.le_ediv_iff_mul_le (by omega), Int.mul_comm]
  exact h

set_option maxRecDepth 100000 in
set_option maxHeartbeats 1000000 in
theorem law3_early (m c : Int) (w : World) (m0 : 0 ≤ m) (m1 : m ≤ 18446744073709551615) (c0 : 0 ≤ c) (c1 : c ≤ 18446744073709551615) (h : c < 2 ∨ 18446744073709551615 < m + (c - c / 10) - 1) :
    Calls Try.prog 3 #[.int .u64 m, .int .u64 c] w fun e w' => e = .returned (.bool true) ∧ Grown w w' := by
  by_cases hc : c < 2
  · clear h
    go_enter Try.func3, Try.ntmps3
    go_wp2
    go_ret
    exact ⟨rfl, Grown.refl _⟩
  · have h2 : 18446744073709551615 < m + (c - c / 10) - 1 := by omega
    clear h
    go_enter Try.func3, Try.ntmps3
    go_wp2
    go_ret
    exact ⟨rfl, Grown.refl _⟩

theorem grown_two (w : World) (c c' : Array Value) (t t' : TypeId) (n : Nat) : Grown w (((w.alloc (.cells c t)).alloc (.cells c' t')).drewN n) := ((Grown.refl w).alloc c t).alloc c' t'

set_option maxRecDepth 100000 in
set_option maxHeartbeats 1000000 in
theorem law3_zero (c : Int) (w : World) (c0 : 2 ≤ c) (c1 : c ≤ 18446744073709551615) :
    Calls Try.prog 3 #[.int .u64 0, .int .u64 c] w fun e w' => e = .returned (.bool true) ∧ Grown w w' := by
  have hn := new6 0 c w (by omega) (by omega) c0 c1 (by omega)
  have hI : pI 0 c = 0 := by unfold pI; exact Int.ediv_eq_zero_of_lt (by omega) (by omega)
  have hT : pT 0 c = 0 := by unfold pT; rw [hI]; simp
  rw [hI, hT] at hn
  clear hI hT
  go_enter Try.func3, Try.ntmps3
  go_wp2_with fail
  refine hn.mono ?_
  rintro e w1 ⟨rfl, hw1⟩
  go_wp2
  go_ret
  obtain ⟨n, rfl⟩ := hw1
  exact ⟨rfl, grown_two _ _ _ _ _ _⟩

set_option maxRecDepth 100000 in
set_option maxHeartbeats 1000000 in
theorem law3_main (m c : Int) (w : World) (m0 : 1 ≤ m) (m1 : m ≤ 18446744073709551615) (c0 : 2 ≤ c) (c1 : c ≤ 18446744073709551615) (hs : m + (c - c / 10) - 1 ≤ 18446744073709551615) :
    Calls Try.prog 3 #[.int .u64 m, .int .u64 c] w fun e w' => e = .returned (.bool true) ∧ Grown w w' := by
  have hn := new6 m c w (by omega) m1 c0 c1 hs
  obtain ⟨t0, t9⟩ := pT_le m c (by omega) c0
  obtain ⟨i1, x1, x2, x0, i2, hq, hr⟩ := even_facts m c m0 c0
  obtain ⟨I, hI⟩ : ∃ I, pI m c = I := ⟨_, rfl⟩
  obtain ⟨T, hT⟩ : ∃ T, pT m c = T := ⟨_, rfl⟩
  rw [hI] at hn i1 x1 x2 x0 i2 hq hr
  rw [hT] at hn t0 t9 hq hr
  clear hI hT
  have t1 : T ≤ 18446744073709551615 := by omega
  have i3 : I ≤ 18446744073709551615 := by omega
  obtain ⟨X, hX⟩ : ∃ X, (I - 1) * (c - c / 10) = X := ⟨_, rfl⟩
  have hsh : 1 ≤ I - 1 → c - c / 10 ≤ 18446744073709551615 / (I - 1) := fun h => share _ _ h (by omega)
  rw [hX] at x1 x2 x0
  have hmul : IntKind.u64.wrap ((I - 1) * (c - c / 10)) = X := by rw [hX]; exact IntWalk.u64_in _ (by omega)
  clear hX t9
  by_cases hI1 : I = 1
  · subst hI1
    clear hsh
    have hX0 : X = 0 := by rw [← hmul]; simp [IntKind.wrap_u64]
    subst hX0
    have hTc : T = c / 10 := by simpa using hq
    subst hTc
    have hmd : m ≤ c - c / 10 := by omega
    clear hmul hq hr
    go_enter Try.func3, Try.ntmps3
    go_wp2_with fail
    refine hn.mono ?_
    rintro e w1 ⟨rfl, hw1⟩
    go_wp2
    go_ret
    obtain ⟨n, rfl⟩ := hw1
    exact ⟨rfl, grown_two _ _ _ _ _ _⟩
  · have hsh2 := hsh (by omega)
    clear hsh
    by_cases hmd : c - c / 10 < m
    · go_enter Try.func3, Try.ntmps3
      go_wp2_with fail
      refine hn.mono ?_
      rintro e w1 ⟨rfl, hw1⟩
      go_wp2
      go_ret
      obtain ⟨n, rfl⟩ := hw1
      exact ⟨rfl, grown_two _ _ _ _ _ _⟩
    · go_enter Try.func3, Try.ntmps3
      go_wp2_with fail
      refine hn.mono ?_
      rintro e w1 ⟨rfl, hw1⟩
      go_wp2
      go_ret
      obtain ⟨n, rfl⟩ := hw1
      exact ⟨rfl, grown_two _ _ _ _ _ _⟩

/-- THE LAW's WALK, for every input. -/
theorem law3 (m c : Int) (w : World) (m0 : 0 ≤ m) (m1 : m ≤ 18446744073709551615) (c0 : 0 ≤ c) (c1 : c ≤ 18446744073709551615) :
    Calls Try.prog 3 #[.int .u64 m, .int .u64 c] w fun e w' => e = .returned (.bool true) ∧ Grown w w' := by
  by_cases h : c < 2 ∨ 18446744073709551615 < m + (c - c / 10) - 1
  · exact law3_early m c w m0 m1 c0 c1 h
  · by_cases hm : m = 0
    · subst hm
      exact law3_zero c w (by omega) c1
    · exact law3_main m c w (by omega) m1 (by omega) c1 (by omega)

end Go.Proofs.Qxb6605364a
