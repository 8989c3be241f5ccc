/-
  THE PLAIN LAW OF THE SEARCH (Knuth, Morris, Pratt): no Go in sight. P: the span's bytes, T: the text's bytes, as functions of the index.
-/
import Derived.Below
namespace Go.Proofs.Qxb6605336a.Kmp

/-- The first k bytes of P stand in T, ending ahead of place r. -/
def Suf (P T : Nat → Int) (r k : Nat) : Prop := k ≤ r ∧ ∀ i, i < k → P i = T (r - k + i)
/-- k is the length of a border of P's first j bytes. -/
def Bord (P : Nat → Int) (j k : Nat) : Prop := k < j ∧ Suf P P j k
def LBord (P : Nat → Int) (j k : Nat) : Prop := Bord P j k ∧ ∀ k', Bord P j k' → k' ≤ k
/-- The table holds the longest borders of 1 .. j; and every entry up to there is below its index. -/
def Tab (P : Nat → Int) (b : Nat → Nat) (j : Nat) : Prop := ∀ i, 1 ≤ i → i ≤ j → LBord P i (b i)

variable {P T : Nat → Int}

theorem suf_zero (r : Nat) : Suf P T r 0 := ⟨Nat.zero_le _, fun _ h => absurd h (Nat.not_lt_zero _)⟩

theorem suf_border {r n k : Nat} (hn : Suf P T r n) (hk : Suf P T r k) (h : k < n) : Bord P n k := by
  refine ⟨h, Nat.le_of_lt h, fun i hi => ?_⟩
  have a := hk.2 i hi
  have b := hn.2 (n - k + i) (by omega)
  have e : r - n + (n - k + i) = r - k + i := by have := hn.1; omega
  rw [e] at b
  rw [a, b]

theorem suf_trans {r n k : Nat} (hn : Suf P T r n) (hk : Bord P n k) : Suf P T r k := by
  have h1 := hk.1
  have h2 := hn.1
  refine ⟨by omega, fun i hi => ?_⟩
  have a := hk.2.2 i hi
  have b := hn.2 (n - k + i) (by omega)
  have e : r - n + (n - k + i) = r - k + i := by omega
  rw [e] at b
  rw [a, b]

theorem suf_down {r k : Nat} (h : Suf P T (r + 1) (k + 1)) : Suf P T r k ∧ P k = T r := by
  have h1 := h.1
  refine ⟨⟨by omega, fun i hi => ?_⟩, ?_⟩
  · have a := h.2 i (by omega)
    have e : r + 1 - (k + 1) + i = r - k + i := by omega
    rw [e] at a
    exact a
  · have a := h.2 k (by omega)
    have e : r + 1 - (k + 1) + k = r := by omega
    rw [e] at a
    exact a

theorem suf_up {r k : Nat} (h : Suf P T r k) (e : P k = T r) : Suf P T (r + 1) (k + 1) := by
  have h1 := h.1
  refine ⟨by omega, fun i hi => ?_⟩
  by_cases hk : i = k
  · subst hk
    have e2 : r + 1 - (i + 1) + i = r := by omega
    rw [e2]
    exact e
  · have a := h.2 i (by omega)
    have e2 : r + 1 - (k + 1) + i = r - k + i := by omega
    rw [e2]
    exact a

/-! ### the table -/

theorem lbord_one : LBord P 1 0 := ⟨⟨by omega, suf_zero _⟩, fun k' h => by have := h.1; omega⟩

/-- The inner loop's head, at place j, with k in hand. -/
def BI (P : Nat → Int) (j k : Nat) : Prop := Bord P j k ∧ ∀ k', k' < j → Suf P P (j + 1) (k' + 1) → k' ≤ k

theorem bi_start {j k : Nat} (h : LBord P j k) : BI P j k :=
  ⟨h.1, fun k' hk hs => h.2 k' ⟨hk, (suf_down hs).1⟩⟩

theorem bi_step {j k c : Nat} (h : BI P j k) (hc : LBord P k c) (hne : P j ≠ P k) : BI P j c := by
  have h1 := h.1.1
  have h2 := hc.1.1
  refine ⟨⟨by omega, suf_trans h.1.2 hc.1⟩, fun k' hk hs => ?_⟩
  have h3 := h.2 k' hk hs
  have h4 := suf_down hs
  have h5 : k' ≠ k := fun e => hne (by rw [← e]; exact h4.2.symm)
  exact hc.2 k' (suf_border h.1.2 h4.1 (by omega))

theorem bi_hit {j k : Nat} (h : BI P j k) (he : P j = P k) : LBord P (j + 1) (k + 1) := by
  have h1 := h.1.1
  refine ⟨⟨by omega, suf_up h.1.2 he.symm⟩, fun k' hk => ?_⟩
  have h2 := hk.1
  cases k' with
  | zero => omega
  | succ q => have := h.2 q (by omega) hk.2; omega

theorem bi_miss {j : Nat} (h : BI P j 0) (he : P j ≠ P 0) : LBord P (j + 1) 0 := by
  refine ⟨⟨by omega, suf_zero _⟩, fun k' hk => ?_⟩
  have h2 := hk.1
  cases k' with
  | zero => omega
  | succ q =>
    have h3 := h.2 q (by omega) hk.2
    have h4 : q = 0 := by omega
    subst h4
    exact absurd (suf_down hk.2).2.symm he

theorem tab_next {b : Nat → Nat} {j k : Nat} (h : Tab P b j) (hk : LBord P (j + 1) k) : Tab P (fun i => if i = j + 1 then k else b i) (j + 1) := by
  intro i h1 h2
  show LBord P i (if i = j + 1 then k else b i)
  by_cases e : i = j + 1
  · rw [if_pos e, e]; exact hk
  · rw [if_neg e]; exact h i h1 (by omega)

/-! ### the search -/

/-- What holds between two asks: 'read' bytes read, n in hand, no ask later than x yet; m: the span's length, L: the text's. -/
structure Inv (P T : Nat → Int) (m L x read n : Nat) : Prop where
  nm : n ≤ m
  inL : 0 < n → read ≤ L
  suf : Suf P T read n
  low : x + n ≤ read
  high : read ≤ x + m
  top : ∀ k, k ≤ m → Suf P T read k → x + k ≤ read → k ≤ n

theorem inv_fresh {m L : Nat} : Inv P T m L 0 0 0 :=
  ⟨Nat.zero_le _, fun h => absurd h (Nat.lt_irrefl _), suf_zero _, Nat.le_refl _, Nat.zero_le _, fun _ _ h _ => h.1⟩

theorem inv_jump {m L x : Nat} : Inv P T m L x x 0 :=
  ⟨Nat.zero_le _, fun h => absurd h (Nat.lt_irrefl _), suf_zero _, Nat.le_refl _, Nat.le_add_right _ _, fun _ _ _ h => by omega⟩

/-- While prefixes that begin too early are dropped. -/
structure Drop (P T : Nat → Int) (m L x read n : Nat) : Prop where
  nm : n ≤ m
  inL : 0 < n → read ≤ L
  suf : Suf P T read n
  past : x < read
  high : read ≤ x + m
  top : ∀ k, k ≤ m → Suf P T read k → x + k ≤ read → k ≤ n

theorem drop_start {m L x x' read n : Nat} (h : Inv P T m L x read n) (hx : x ≤ x') (hr : x' < read) : Drop P T m L x' read n :=
  ⟨h.nm, h.inL, h.suf, hr, by have := h.high; omega, fun k h1 h2 h3 => h.top k h1 h2 (by omega)⟩

theorem drop_step {m L x read n c : Nat} (h : Drop P T m L x read n) (hlt : read < x + n) (hc : LBord P n c) : Drop P T m L x read c := by
  have h1 := hc.1.1
  have h2 := h.nm
  refine ⟨by omega, fun _ => h.inL (by omega), suf_trans h.suf hc.1, h.past, h.high, fun k a b d => ?_⟩
  have h3 := h.top k a b d
  exact hc.2 k (suf_border h.suf b (by omega))

theorem drop_done {m L x read n : Nat} (h : Drop P T m L x read n) (hge : x + n ≤ read) : Inv P T m L x read n :=
  ⟨h.nm, h.inL, h.suf, hge, h.high, h.top⟩

/-- While the byte T read is taken in: n shrinks till it fits. -/
structure Take (P T : Nat → Int) (m L x read n : Nat) : Prop where
  nm : n < m
  inL : read < L
  suf : Suf P T read n
  low : x + n ≤ read
  high : read < x + m
  top : ∀ k, k < m → Suf P T (read + 1) (k + 1) → x + k ≤ read → k ≤ n

theorem take_start {m L x read n : Nat} (h : Inv P T m L x read n) (h1 : read = x + n) (h2 : n < m) (h3 : read < L) : Take P T m L x read n :=
  ⟨h2, h3, h.suf, by omega, by omega, fun k a b d => h.top k (by omega) (suf_down b).1 d⟩

theorem take_step {m L x read n c : Nat} (h : Take P T m L x read n) (hc : LBord P n c) (hne : P n ≠ T read) : Take P T m L x read c := by
  have h1 := hc.1.1
  have h2 := h.nm
  have h3 := h.low
  refine ⟨by omega, h.inL, suf_trans h.suf hc.1, by omega, h.high, fun k a b d => ?_⟩
  have h4 := h.top k a b d
  have h5 := suf_down b
  have h6 : k ≠ n := fun e => hne (by rw [← e]; exact h5.2)
  exact hc.2 k (suf_border h.suf h5.1 (by omega))

theorem take_hit {m L x read n : Nat} (h : Take P T m L x read n) (he : P n = T read) : Inv P T m L x (read + 1) (n + 1) := by
  have h1 := h.nm
  have h2 := h.inL
  have h3 := h.low
  have h4 := h.high
  refine ⟨by omega, fun _ => by omega, suf_up h.suf he, by omega, by omega, fun k a b d => ?_⟩
  cases k with
  | zero => omega
  | succ q => have := h.top q (by omega) b (by omega); omega

theorem take_miss {m L x read : Nat} (h : Take P T m L x read 0) (he : P 0 ≠ T read) : Inv P T m L x (read + 1) 0 := by
  have h3 := h.low
  have h4 := h.high
  refine ⟨by omega, fun g => absurd g (Nat.lt_irrefl _), suf_zero _, by omega, by omega, fun k a b d => ?_⟩
  cases k with
  | zero => omega
  | succ q =>
    have h5 := h.top q (by omega) b (by omega)
    have h6 : q = 0 := by omega
    subst h6
    exact absurd (suf_down b).2 he

/-- The span stands in the text at place x. -/
def Occ (P T : Nat → Int) (m L x : Nat) : Prop := m = 0 ∨ x + m ≤ L ∧ ∀ i, i < m → T (x + i) = P i

/-- THE LAW: at the end of an ask the search says whether the span stands there. -/
theorem inv_answer {m L x read n : Nat} (h : Inv P T m L x read n) (hend : ¬ (read = x + n ∧ n < m ∧ read < L)) :
    (read = x + n ∧ n = m) ↔ Occ P T m L x := by
  have h1 := h.nm
  have h2 := h.low
  have h3 := h.high
  constructor
  · rintro ⟨a, b⟩
    by_cases hm : m = 0
    · exact .inl hm
    · refine .inr ⟨by have := h.inL (by omega); omega, fun i hi => ?_⟩
      have c := h.suf.2 i (by omega)
      have e : read - n + i = x + i := by omega
      rw [e] at c
      exact c.symm
  · intro ho
    rcases ho with hm | ⟨hL, hT⟩
    · omega
    · have hs : Suf P T read (read - x) := ⟨by omega, fun i hi => by
        have c := hT i (by omega)
        have e : read - (read - x) + i = x + i := by omega
        rw [e]
        exact c.symm⟩
      have h4 := h.top (read - x) (by omega) hs (by omega)
      have h5 : read = x + n := by omega
      refine ⟨h5, ?_⟩
      by_cases h6 : n < m
      · exact absurd ⟨h5, h6, by omega⟩ hend
      · omega

end Go.Proofs.Qxb6605336a.Kmp
