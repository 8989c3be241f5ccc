/-
  READING GROUPS: the plain functions, no Go in sight. A string is the list of its bytes, as integers.
-/
import Derived.Below
namespace Go.Proofs.Qxb6605336a.Rg

def hexOk (c : Int) : Bool := decide (48 ≤ c ∧ c ≤ 57 ∨ 97 ≤ c ∧ c ≤ 102 ∨ 65 ≤ c ∧ c ≤ 70)
def hexD (c : Int) : Int := if 48 ≤ c ∧ c ≤ 57 then c - 48 else if 97 ≤ c ∧ c ≤ 102 then c - 87 else if 65 ≤ c ∧ c ≤ 70 then c - 55 else 0
def digB (c : Int) : Bool := decide (48 ≤ c ∧ c ≤ 57)

theorem hexD_range (c : Int) : 0 ≤ hexD c ∧ hexD c ≤ 15 := by
  unfold hexD
  split
  · omega
  · split
    · omega
    · split <;> omega

theorem hexD_off {c : Int} (h : hexOk c = false) : hexD c = 0 := by
  simp only [hexOk, decide_eq_false_iff_not] at h
  unfold hexD
  rw [if_neg (by omega), if_neg (by omega), if_neg (by omega)]

/-- How many hex digits l begins with, b at most. -/
def hexRun : List Int → Nat → Nat
  | c :: l, b + 1 => if hexOk c = true then hexRun l b + 1 else 0
  | _, _ => 0
/-- The number that the first k bytes spell. -/
def hexVal (l : List Int) : Nat → Int
  | 0 => 0
  | k + 1 => hexVal l k * 16 + hexD (l.getD k 0)

theorem hexVal_range (l : List Int) (k : Nat) : 0 ≤ hexVal l k ∧ hexVal l k < 16 ^ k := by
  induction k with
  | zero => simp [hexVal]
  | succ k ih =>
    have := hexD_range (l.getD k 0)
    have e : (16 : Int) ^ (k + 1) = 16 ^ k * 16 := by rw [Int.pow_succ]
    simp only [hexVal]
    omega

theorem hexVal_small (l : List Int) (k : Nat) (hk : k ≤ 4) : 0 ≤ hexVal l k ∧ hexVal l k ≤ 65535 := by
  have h := hexVal_range l k
  have hp : (16 : Int) ^ k ≤ 65536 := by
    have : k = 0 ∨ k = 1 ∨ k = 2 ∨ k = 3 ∨ k = 4 := by omega
    rcases this with rfl | rfl | rfl | rfl | rfl <;> decide
  omega
theorem hexVal_small3 (l : List Int) (k : Nat) (hk : k ≤ 3) : 0 ≤ hexVal l k ∧ hexVal l k ≤ 4095 := by
  have h := hexVal_range l k
  have hp : (16 : Int) ^ k ≤ 4096 := by
    have : k = 0 ∨ k = 1 ∨ k = 2 ∨ k = 3 := by omega
    rcases this with rfl | rfl | rfl | rfl <;> decide
  omega

theorem hexRun_le (l : List Int) (b : Nat) : hexRun l b ≤ b ∧ hexRun l b ≤ l.length := by
  induction l generalizing b with
  | nil => simp [hexRun]
  | cons c l ih =>
    cases b with
    | zero => simp [hexRun]
    | succ b =>
      simp only [hexRun]
      have := ih b
      split <;> simp <;> omega

/-- The run by what it is. -/
theorem hexRun_is (l : List Int) (b k : Nat) (h1 : k ≤ b) (h2 : k ≤ l.length) (h3 : ∀ j, j < k → hexOk (l.getD j 0) = true) (h4 : k = b ∨ k = l.length ∨ hexOk (l.getD k 0) = false) : hexRun l b = k := by
  induction l generalizing b k with
  | nil => simp at h2; subst h2; simp [hexRun]
  | cons c l ih =>
    cases b with
    | zero => have : k = 0 := by omega
              subst this; simp [hexRun]
    | succ b =>
      cases k with
      | zero =>
        rcases h4 with h | h | h
        · omega
        · simp at h
        · simp only [hexRun]
          have hc : hexOk c = false := by simpa using h
          rw [if_neg (by rw [hc]; decide)]
      | succ k =>
        have hc : hexOk c = true := by simpa using h3 0 (by omega)
        simp only [hexRun]
        rw [if_pos hc, ih b k (by omega) (by simpa using h2) (fun j hj => by simpa using h3 (j + 1) (by omega)) ?_]
        rcases h4 with h | h | h
        · exact .inl (by omega)
        · exact .inr (.inl (by simpa using h))
        · exact .inr (.inr (by simpa using h))

/-! ### a decimal number, a dotted quad -/

/-- The number l begins with: its value and its digits; none: no digit, a zero ahead of another digit, or more than 255. -/
def decGo : List Int → Int → Nat → Option (Int × Nat)
  | [], v, n => if n = 0 then none else some (v, n)
  | c :: l, v, n => if digB c = true then (if n = 1 ∧ v = 0 then none else if 255 < v * 10 + (c - 48) then none else decGo l (v * 10 + (c - 48)) (n + 1)) else if n = 0 then none else some (v, n)
def dec (l : List Int) : Option (Int × Nat) := decGo l 0 0

/-- k numbers, a dot between two, and nothing behind. -/
def qs : Nat → List Int → Option (List Int)
  | 0, l => if l = [] then some [] else none
  | k + 1, l => match dec l with
    | none => none
    | some (v, n) => if k = 0 then (qs 0 (l.drop n)).map (fun r => v :: r) else match l.drop n with
      | [] => none
      | c :: r => if c = 46 then (qs k r).map (fun r => v :: r) else none

theorem decGo_bound : ∀ (l : List Int) (v : Int) (n : Nat) (v' : Int) (n' : Nat), decGo l v n = some (v', n') → 0 ≤ v → v ≤ 255 → 0 ≤ v' ∧ v' ≤ 255 ∧ n ≤ n' ∧ n' ≤ n + l.length ∧ 0 < n'
  | [], v, n, v', n', h, h0, h1 => by
    simp only [decGo] at h
    split at h
    · cases h
    · simp only [Option.some.injEq, Prod.mk.injEq] at h
      obtain ⟨rfl, rfl⟩ := h
      simp
      omega
  | c :: l, v, n, v', n', h, h0, h1 => by
    simp only [decGo] at h
    split at h
    · rename_i hd
      split at h
      · cases h
      · split at h
        · cases h
        · have hc : 48 ≤ c ∧ c ≤ 57 := of_decide_eq_true hd
          have := decGo_bound l _ _ v' n' h (by omega) (by omega)
          simp
          omega
    · split at h
      · cases h
      · simp only [Option.some.injEq, Prod.mk.injEq] at h
        obtain ⟨rfl, rfl⟩ := h
        simp
        omega

theorem dec_bound {l : List Int} {v : Int} {n : Nat} (h : dec l = some (v, n)) : 0 ≤ v ∧ v ≤ 255 ∧ 0 < n ∧ n ≤ l.length := by
  have := decGo_bound l 0 0 v n h (by omega) (by omega)
  omega

theorem qs_none {l : List Int} {k : Nat} (h : dec l = none) : qs (k + 1) l = none := by simp only [qs, h]
theorem qs_last {l : List Int} {v : Int} {n : Nat} (h : dec l = some (v, n)) : qs 1 l = (qs 0 (l.drop n)).map (fun r => v :: r) := by simp only [qs, h, if_true]
theorem qs_dot {l r : List Int} {v : Int} {n k : Nat} (h : dec l = some (v, n)) (hk : k ≠ 0) (hr : l.drop n = 46 :: r) : qs (k + 1) l = (qs k r).map (fun r => v :: r) := by
  simp only [qs, h, hr, if_neg hk, if_true]
theorem qs_nodot {l : List Int} {v : Int} {n k : Nat} (h : dec l = some (v, n)) (hk : k ≠ 0) (hr : ∀ r, l.drop n ≠ 46 :: r) : qs (k + 1) l = none := by
  simp only [qs, h, if_neg hk]
  cases hd : l.drop n with
  | nil => rfl
  | cons c r =>
    by_cases hc : c = 46
    · subst hc; exact absurd hd (hr r)
    · simp only [if_neg hc]

/-! ### the groups -/

/-- What is written into a buffer with that room, and whether all was read: 'out' has been written, l is left. -/
def rg (room : Nat) (ip : Bool) : Nat → List Int → List Int → List Int × Bool
  | 0, _, out => (out, false)
  | f + 1, l, out =>
    if ip = true ∧ hexRun l 4 < l.length ∧ l.getD (hexRun l 4) 0 = 46 then
      match qs 4 l with
      | some q => if out.length + 4 ≤ room then (out ++ q, true) else (out, false)
      | none => (out, false)
    else if hexRun l 4 = 0 ∨ room < out.length + 2 then (out, false)
    else if hexRun l 4 = l.length then (out ++ [hexVal l (hexRun l 4) / 256, hexVal l (hexRun l 4) % 256], true)
    else if l.getD (hexRun l 4) 0 = 58 then rg room ip f (l.drop (hexRun l 4 + 1)) (out ++ [hexVal l (hexRun l 4) / 256, hexVal l (hexRun l 4) % 256])
    else (out ++ [hexVal l (hexRun l 4) / 256, hexVal l (hexRun l 4) % 256], false)

section
variable {room f : Nat} {ip : Bool} {l out : List Int} {I : Nat} {V : Int}
theorem rg_dot_ok (hI : hexRun l 4 = I) (h1 : ip = true) (h2 : I < l.length) (h3 : l.getD I 0 = 46) {q : List Int} (hq : qs 4 l = some q) (h4 : out.length + 4 ≤ room) : rg room ip (f + 1) l out = (out ++ q, true) := by
  subst hI
  simp only [rg]
  rw [if_pos ⟨h1, h2, h3⟩, hq]
  simp only [if_pos h4]
theorem rg_dot_no (hI : hexRun l 4 = I) (h1 : ip = true) (h2 : I < l.length) (h3 : l.getD I 0 = 46) (hq : qs 4 l = none ∨ room < out.length + 4) : rg room ip (f + 1) l out = (out, false) := by
  subst hI
  simp only [rg]
  rw [if_pos ⟨h1, h2, h3⟩]
  cases hqq : qs 4 l with
  | none => rfl
  | some q =>
    rcases hq with hq | hq
    · rw [hqq] at hq; cases hq
    · simp only [if_neg (by omega : ¬ out.length + 4 ≤ room)]
theorem rg_none (hI : hexRun l 4 = I) (h1 : ¬ (ip = true ∧ I < l.length ∧ l.getD I 0 = 46)) (h2 : I = 0 ∨ room < out.length + 2) : rg room ip (f + 1) l out = (out, false) := by
  subst hI
  simp only [rg]
  rw [if_neg h1, if_pos h2]
theorem rg_end (hI : hexRun l 4 = I) (hV : hexVal l I = V) (h1 : ¬ (ip = true ∧ I < l.length ∧ l.getD I 0 = 46)) (h2 : ¬ (I = 0 ∨ room < out.length + 2)) (h3 : I = l.length) : rg room ip (f + 1) l out = (out ++ [V / 256, V % 256], true) := by
  subst hI hV
  simp only [rg]
  rw [if_neg h1, if_neg h2, if_pos h3]
theorem rg_colon (hI : hexRun l 4 = I) (hV : hexVal l I = V) (h1 : ¬ (ip = true ∧ I < l.length ∧ l.getD I 0 = 46)) (h2 : ¬ (I = 0 ∨ room < out.length + 2)) (h3 : ¬ I = l.length) (h4 : l.getD I 0 = 58) :
    rg room ip (f + 1) l out = rg room ip f (l.drop (I + 1)) (out ++ [V / 256, V % 256]) := by
  subst hI hV
  simp only [rg]
  rw [if_neg h1, if_neg h2, if_neg h3, if_pos h4]
theorem rg_bad (hI : hexRun l 4 = I) (hV : hexVal l I = V) (h1 : ¬ (ip = true ∧ I < l.length ∧ l.getD I 0 = 46)) (h2 : ¬ (I = 0 ∨ room < out.length + 2)) (h3 : ¬ I = l.length) (h4 : ¬ l.getD I 0 = 58) :
    rg room ip (f + 1) l out = (out ++ [V / 256, V % 256], false) := by
  subst hI hV
  simp only [rg]
  rw [if_neg h1, if_neg h2, if_neg h3, if_neg h4]
end

/-- readGroups. -/
def rgs (room : Nat) (ip : Bool) (l : List Int) : List Int × Bool := if l = [] then ([], true) else rg room ip (l.length + 1) l []

end Go.Proofs.Qxb6605336a.Rg
