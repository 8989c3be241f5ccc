/-
  THE PACE, THE PLAIN LAW: no period holds more than count. No Go in sight.
-/
import Derived.Test.Qxb6605364aPaceC
namespace Go.Proofs.Qxb6605364a

/-- i tree heads are signed, at the times tm; the last at prev, the next is due at nx. -/
structure Run (I T : Int) (tm : Nat → Int) (i : Nat) (nx prev : Int) : Prop where
  p0 : 0 ≤ prev
  p1 : prev ≤ i * 1099511627776
  n0 : 0 ≤ nx
  n1 : nx ≤ prev + T + I
  t0 : ∀ j, j < i → 0 ≤ tm j ∧ tm j ≤ prev
  mono : ∀ j k, j ≤ k → k < i → tm j ≤ tm k
  key : ∀ j, j < i → tm j + ((i : Int) - j) * I ≤ nx
  win : ∀ j k, j ≤ k → k < i → tm j + ((k : Int) - j) * I ≤ tm k + T

theorem run_start (I T : Int) (tm : Nat → Int) (h1 : 0 ≤ I) (h2 : 0 ≤ T) : Run I T tm 0 0 0 :=
  ⟨by omega, by omega, by omega, by omega, fun j hj => by omega, fun j k _ hk => by omega, fun j hj => by omega, fun j k _ hk => by omega⟩

/-- The time of the next one. -/
def timeN (T nx prev gap : Int) : Int := if prev + gap < early T nx then early T nx else prev + gap

theorem time_facts {I T nx prev gap : Int} (h1 : 1 ≤ I) (h1b : I ≤ 1099511627776) (p0 : 0 ≤ prev) (n1 : nx ≤ prev + T + I) (g0 : 0 ≤ gap) (g1 : gap ≤ 1099511627776) :
    prev ≤ timeN T nx prev gap ∧ timeN T nx prev gap ≤ prev + 1099511627776 ∧ nx ≤ timeN T nx prev gap + T ∧ 0 ≤ early T nx ∧ early T nx ≤ timeN T nx prev gap := by
  unfold timeN early
  split <;> split <;> omega

theorem next_facts {I T nx t : Int} (h1 : 1 ≤ I) (h2 : 0 ≤ T) (s0 : 0 ≤ t) (hn : nx ≤ t + T) :
    nx + I ≤ nextN I nx t ∧ t + I ≤ nextN I nx t ∧ nextN I nx t ≤ t + T + I ∧ early T (nextN I nx t) ≤ t + I ∧ 0 ≤ early T (nextN I nx t) := by
  unfold nextN early
  split <;> split <;> omega

theorem run_step {I T : Int} {tm : Nat → Int} {i : Nat} {nx prev gap : Int} (h : Run I T tm i nx prev) (h1 : 1 ≤ I) (h1b : I ≤ 1099511627776) (h2 : 0 ≤ T) (g0 : 0 ≤ gap) (g1 : gap ≤ 1099511627776) :
    Run I T (fun j => if j = i then timeN T nx prev gap else tm j) (i + 1) (nextN I nx (timeN T nx prev gap)) (timeN T nx prev gap) := by
  obtain ⟨t1, t2, t3, _, _⟩ := time_facts h1 h1b h.p0 h.n1 g0 g1
  have hp := h.p0
  have hp1 := h.p1
  generalize timeN T nx prev gap = t at *
  obtain ⟨x1, x2, x3, _, _⟩ := next_facts (I := I) h1 h2 (by omega) t3
  generalize nextN I nx t = N at *
  refine ⟨by omega, by omega, by omega, by omega, ?_, ?_, ?_, ?_⟩
  · intro j hj
    by_cases e : j = i
    · simp only [e, if_true]; omega
    · simp only [e, if_false]
      have := h.t0 j (by omega)
      omega
  · intro j k hjk hk
    by_cases e : k = i
    · simp only [e, if_true]
      by_cases e2 : j = i
      · simp only [e2, if_true]; omega
      · simp only [e2, if_false]
        have := h.t0 j (by omega)
        omega
    · have e2 : j ≠ i := by omega
      simp only [e, e2, if_false]
      exact h.mono j k hjk (by omega)
  · intro j hj
    by_cases e : j = i
    · simp only [e, if_true]
      have : ((i + 1 : Nat) : Int) - (i : Int) = 1 := by omega
      rw [this]
      omega
    · simp only [e, if_false]
      have hk := h.key j (by omega)
      have e3 : (((i + 1 : Nat) : Int) - (j : Int)) * I = ((i : Int) - j) * I + I := by
        have : ((i + 1 : Nat) : Int) - (j : Int) = ((i : Int) - j) + 1 := by omega
        rw [this, Int.add_mul, Int.one_mul]
      rw [e3]
      omega
  · intro j k hjk hk
    by_cases e : k = i
    · simp only [e, if_true]
      by_cases e2 : j = i
      · simp only [e2, if_true, Int.sub_self, Int.zero_mul]; omega
      · simp only [e2, if_false]
        have hk := h.key j (by omega)
        omega
    · have e2 : j ≠ i := by omega
      simp only [e, e2, if_false]
      exact h.win j k hjk (by omega)

/-- The burst in use is at most an interval's. -/
theorem gath_le {I B T nx t : Int} (h1 : 1 ≤ I) (hB : 0 ≤ B) (hT : T = B * I) (hn : nx ≤ t + T) : 0 ≤ gath I T nx t ∧ gath I T nx t ≤ I := by
  unfold gath
  have hq : T / I = B := by rw [hT]; exact Int.mul_ediv_cancel _ (by omega)
  rw [hq]
  have hm : 0 ≤ (if nx < t then t else nx) - t ∧ (if nx < t then t else nx) - t ≤ T := by
    have h0 : 0 ≤ T := by rw [hT]; exact Int.mul_nonneg hB (by omega)
    split <;> omega
  generalize (if nx < t then t else nx) - t = x at *
  by_cases hb : B < 1
  · rw [if_pos hb]
    have : B = 0 := by omega
    subst this
    simp at hT
    omega
  · rw [if_neg hb]
    refine ⟨Int.ediv_nonneg hm.1 hB, ?_⟩
    have : x ≤ B * I := by omega
    exact Int.ediv_le_of_le_mul (by omega) (by rw [Int.mul_comm]; exact this)

/-- NO PERIOD HOLDS MORE THAN COUNT. -/
theorem few {I T m c : Int} {tm : Nat → Int} {n : Nat} {nx prev : Int} (h : Run I T tm n nx prev) (h1 : 1 ≤ I) (hT : T = c / 10 * I) (hm : m ≤ (c - c / 10) * I) {lo i : Nat} (hlo : lo ≤ i) (hi : i < n) (hw : tm i - tm lo < m) : (i : Int) - lo + 1 ≤ c := by
  have hw2 := h.win lo i hlo hi
  have h3 : ((i : Int) - lo) * I < c * I := by
    have : c * I = c / 10 * I + (c - c / 10) * I := by rw [← Int.add_mul]; congr 1; omega
    omega
  have := Int.lt_of_mul_lt_mul_right h3 (by omega)
  omega
end Go.Proofs.Qxb6605364a
