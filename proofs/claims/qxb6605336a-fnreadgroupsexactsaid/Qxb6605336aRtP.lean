/-
  THE ROUND TRIP, THE PLAIN LAW: what the words spell reads back as their bytes. No Go in sight.
-/
import Derived.Test.Qxb6605336aRtB
namespace Go.Proofs.Qxb6605336a
open Rg (hexOk hexD digB hexRun hexVal)

/-- The words' text: the first k of them. -/
def txt (f : Nat → Int) (up zeros : Bool) : Nat → List Int
  | 0 => []
  | k + 1 => (if k = 0 then [] else txt f up zeros k ++ [58]) ++ hexG (f k) up 4 zeros
/-- Their bytes. -/
def wnt (f : Nat → Int) : Nat → List Int
  | 0 => []
  | k + 1 => wnt f k ++ [f k / 256, f k % 256]
def quadT (n : Nat) (q0 q1 q2 q3 : Int) : List Int := (if n = 0 then [] else [58]) ++ decT q0 ++ [46] ++ decT q1 ++ [46] ++ decT q2 ++ [46] ++ decT q3
def fullT (f : Nat → Int) (n : Nat) (up zeros quad : Bool) (q0 q1 q2 q3 : Int) : List Int := txt f up zeros n ++ (if quad = true then quadT n q0 q1 q2 q3 else [])
def fullW (f : Nat → Int) (n : Nat) (quad : Bool) (q0 q1 q2 q3 : Int) : List Int := wnt f n ++ (if quad = true then [q0, q1, q2, q3] else [])

/-! ### the same, from the other end: what is left from word k on -/
/-- The text of the words k, k+1, .. (n - k = m of them are left), each with a colon behind it where something follows; then the tail. -/
def rest (f : Nat → Int) (up zeros : Bool) (tail : List Int) : Nat → Nat → List Int
  | _, 0 => tail
  | k, m + 1 => hexG (f k) up 4 zeros ++ (if m = 0 ∧ tail = [] then [] else 58 :: rest f up zeros tail (k + 1) m)
def restW (f : Nat → Int) (tailW : List Int) : Nat → Nat → List Int
  | _, 0 => tailW
  | k, m + 1 => f k / 256 :: f k % 256 :: restW f tailW (k + 1) m

/-! ### a spelt word reads back -/
theorem hexC_ok (d : Int) (up : Bool) (h0 : 0 ≤ d) (h1 : d ≤ 15) : hexOk (hexC d up) = true ∧ hexD (hexC d up) = d ∧ hexC d up ≠ 46 ∧ hexC d up ≠ 58 := by
  unfold hexC
  by_cases h : d < 10
  · rw [if_pos h]
    refine ⟨decide_eq_true (by omega), ?_, by omega, by omega⟩
    unfold hexD; rw [if_pos (by omega)]; omega
  · rw [if_neg h]
    cases up
    · refine ⟨decide_eq_true (by simp; omega), ?_, by simp; omega, by simp; omega⟩
      unfold hexD; rw [if_neg (by simp; omega), if_pos (by simp; omega)]; simp
    · refine ⟨decide_eq_true (by simp; omega), ?_, by simp; omega, by simp; omega⟩
      unfold hexD; rw [if_neg (by simp; omega), if_neg (by simp; omega), if_pos (by simp; omega)]; simp

theorem dgt_range (W : Int) (k : Nat) : 0 ≤ dgt W k ∧ dgt W k ≤ 15 := by unfold dgt; omega

/-- The characters are hex digits; their value is what the last k digits are worth (all digits ahead of the first written one are nought). -/
theorem hexG_run (W : Int) (up : Bool) (k b : Nat) (st : Bool) (l : List Int) (hb : k ≤ b) (hl : l = [] ∨ ∃ c r, l = c :: r ∧ hexOk c = false) : hexRun (hexG W up k st ++ l) b = (hexG W up k st).length := by
  induction k generalizing b st with
  | zero =>
    simp only [hexG, List.nil_append, List.length_nil]
    rcases hl with rfl | ⟨c, r, rfl, hc⟩
    · simp [hexRun]
    · cases b with
      | zero => simp [hexRun]
      | succ b => simp only [hexRun]; rw [if_neg (by rw [hc]; decide)]
  | succ k ih =>
    have hr := dgt_range W k
    have hc := hexC_ok (dgt W k) up hr.1 hr.2
    simp only [hexG]
    split
    · cases b with
      | zero => omega
      | succ b =>
        simp only [List.cons_append, hexRun, List.length_cons]
        rw [if_pos hc.1, ih b true (by omega)]
    · exact ih b false (by omega)

/-- The value, digit by digit from a start. -/
def valFrom (v : Int) : List Int → Int
  | [] => v
  | c :: l => valFrom (v * 16 + hexD c) l

theorem hexVal_from (l r : List Int) : hexVal (l ++ r) l.length = valFrom 0 l := by
  have gen : ∀ (l' : List Int) (pre : List Int) (v : Int), hexVal (pre ++ l' ++ r) pre.length = v → hexVal (pre ++ l' ++ r) (pre.length + l'.length) = valFrom v l' := by
    intro l'
    induction l' with
    | nil => intro pre v h; simpa [valFrom] using h
    | cons c l' ih =>
      intro pre v h
      have h2 := ih (pre ++ [c]) (v * 16 + hexD c) ?_
      · simp only [List.append_assoc, List.cons_append, List.nil_append, List.length_append, List.length_cons, List.length_nil] at h2 ⊢
        rw [show pre.length + (l'.length + 1) = pre.length + (0 + 1) + l'.length by omega]
        simpa [valFrom] using h2
      · have e : (pre ++ [c]).length = pre.length + 1 := by simp
        rw [e, hexVal]
        have e2 : pre ++ [c] ++ l' ++ r = pre ++ c :: l' ++ r := by simp
        rw [e2, h]
        simp [List.getD]
  have := gen l [] 0 (by simp [hexVal])
  simpa using this

theorem split_mod (W p : Int) (hp : 0 < p) : W % (p * 16) = W / p % 16 * p + W % p := by
  have h1 := Int.emod_add_mul_ediv W p
  have h2 := Int.emod_nonneg W (Int.ne_of_gt hp)
  have h3 := Int.emod_lt_of_pos W hp
  have h4 := Int.emod_add_mul_ediv (W / p) 16
  have h5 := Int.emod_nonneg (W / p) (by decide : (16 : Int) ≠ 0)
  have h6 := Int.emod_lt_of_pos (W / p) (by decide : (0 : Int) < 16)
  generalize W / p = a at *
  generalize W % p = r at *
  generalize a / 16 = b at *
  generalize a % 16 = c at *
  subst h4
  subst h1
  have e : r + p * (c + 16 * b) = (c * p + r) + p * 16 * b := by
    rw [Int.mul_add, Int.mul_comm c p, Int.mul_assoc p 16 b]; omega
  rw [e, Int.add_mul_emod_self_left]
  have h7 : 0 ≤ c * p := Int.mul_nonneg h5 (Int.le_of_lt hp)
  have h8 : c * p ≤ 15 * p := Int.mul_le_mul_of_nonneg_right (by omega) (Int.le_of_lt hp)
  exact Int.emod_eq_of_lt (by omega) (by omega)

theorem valFrom_hexG (W : Int) (up : Bool) : ∀ (k : Nat) (st : Bool) (v : Int), (st = false → v = 0) → valFrom v (hexG W up k st) = v * 16 ^ k + W % 16 ^ k
  | 0, st, v, _ => by simp [hexG, valFrom]
  | k + 1, st, v, hv => by
    have hr := dgt_range W k
    have hc := hexC_ok (dgt W k) up hr.1 hr.2
    have hsplit : W % 16 ^ (k + 1) = dgt W k * 16 ^ k + W % 16 ^ k := by
      unfold dgt
      have hp : (0 : Int) < 16 ^ k := Int.pow_pos (by decide)
      have e : (16 : Int) ^ (k + 1) = 16 ^ k * 16 := by rw [Int.pow_succ]
      rw [e]
      exact split_mod W _ hp
    have hpow : (16 : Int) ^ (k + 1) = 16 * 16 ^ k := by rw [Int.pow_succ, Int.mul_comm]
    simp only [hexG]
    split
    · simp only [valFrom, hc.2.1]
      rw [valFrom_hexG W up k true _ (fun h => by cases h), hsplit, hpow, Int.add_mul, Int.mul_assoc]
      omega
    · rename_i h
      have h1 : st = false := by
        cases st
        · rfl
        · exact absurd (.inl rfl) h
      have h2 : dgt W k = 0 := by
        by_cases e : dgt W k = 0
        · exact e
        · exact absurd (.inr (.inl e)) h
      have h3 := hv h1
      subst h3
      rw [valFrom_hexG W up k false 0 (fun _ => rfl), hsplit, h2]
      simp

theorem hexG_pos (W : Int) (up : Bool) (k : Nat) (st : Bool) : 0 < (hexG W up (k + 1) st).length := by
  induction k generalizing st with
  | zero => simp only [hexG]; rw [if_pos (.inr (.inr trivial))]; simp
  | succ k ih =>
    rw [hexG]
    split
    · simp
    · exact ih false

theorem word_val (W : Int) (up zeros : Bool) (l : List Int) (h0 : 0 ≤ W) (h1 : W ≤ 65535) : hexVal (hexG W up 4 zeros ++ l) (hexG W up 4 zeros).length = W := by
  rw [hexVal_from, valFrom_hexG W up 4 zeros 0 (fun _ => rfl)]
  have e : (16 : Int) ^ 4 = 65536 := by decide
  rw [e]
  omega

/-! ### a spelt byte reads back -/
theorem dec_decT (v : Int) (l : List Int) (h0 : 0 ≤ v) (h1 : v ≤ 255) (hl : l = [] ∨ ∃ c r, l = c :: r ∧ digB c = false) : Rg.dec (decT v ++ l) = some (v, (decT v).length) := by
  have hstop : ∀ (x : Int) (n : Nat), n ≠ 0 → Rg.decGo l x n = some (x, n) := by
    intro x n hn
    rcases hl with rfl | ⟨c, r, rfl, hc⟩
    · simp only [Rg.decGo]; rw [if_neg hn]
    · simp only [Rg.decGo]; rw [if_neg (by rw [hc]; decide), if_neg hn]
  have step : ∀ (c : Int) (r : List Int) (x : Int) (n : Nat), 48 ≤ c → c ≤ 57 → (n ≠ 1 ∨ x ≠ 0) → x * 10 + (c - 48) ≤ 255 → Rg.decGo (c :: r) x n = Rg.decGo r (x * 10 + (c - 48)) (n + 1) := by
    intro c r x n a1 a2 a3 a4
    have hd : digB c = true := decide_eq_true ⟨a1, a2⟩
    simp only [Rg.decGo]
    rw [if_pos hd, if_neg (by omega), if_neg (by omega)]
  unfold Rg.dec decT
  by_cases h2 : 100 ≤ v
  · rw [if_pos h2]
    simp only [List.cons_append, List.nil_append, List.length_cons, List.length_nil]
    rw [step _ _ _ _ (by omega) (by omega) (by omega) (by omega), step _ _ _ _ (by omega) (by omega) (by omega) (by omega), step _ _ _ _ (by omega) (by omega) (by omega) (by omega), hstop _ _ (by omega)]
    exact congrArg (fun x => some (x, 0 + 1 + 1 + 1)) (by omega)
  · rw [if_neg h2]
    by_cases h3 : 10 ≤ v
    · rw [if_pos h3]
      simp only [List.cons_append, List.nil_append, List.length_cons, List.length_nil]
      rw [step _ _ _ _ (by omega) (by omega) (by omega) (by omega), step _ _ _ _ (by omega) (by omega) (by omega) (by omega), hstop _ _ (by omega)]
      exact congrArg (fun x => some (x, 0 + 1 + 1)) (by omega)
    · rw [if_neg h3]
      simp only [List.cons_append, List.nil_append, List.length_cons, List.length_nil]
      rw [step _ _ _ _ (by omega) (by omega) (by omega) (by omega), hstop _ _ (by omega)]
      exact congrArg (fun x => some (x, 0 + 1)) (by omega)

def quadL (q0 q1 q2 q3 : Int) : List Int := decT q0 ++ 46 :: (decT q1 ++ 46 :: (decT q2 ++ 46 :: decT q3))
theorem quad_reads (q0 q1 q2 q3 : Int) (h0 : 0 ≤ q0 ∧ q0 ≤ 255) (h1 : 0 ≤ q1 ∧ q1 ≤ 255) (h2 : 0 ≤ q2 ∧ q2 ≤ 255) (h3 : 0 ≤ q3 ∧ q3 ≤ 255) : Rg.qs 4 (quadL q0 q1 q2 q3) = some [q0, q1, q2, q3] := by
  have dot : ∀ l : List Int, (46 :: l = [] ∨ ∃ c r, 46 :: l = c :: r ∧ digB c = false) := fun l => .inr ⟨46, l, rfl, by decide⟩
  unfold quadL
  rw [Rg.qs_dot (dec_decT q0 _ h0.1 h0.2 (dot _)) (by decide) (by rw [List.drop_left]),
    Rg.qs_dot (dec_decT q1 _ h1.1 h1.2 (dot _)) (by decide) (by rw [List.drop_left]),
    Rg.qs_dot (dec_decT q2 _ h2.1 h2.2 (dot _)) (by decide) (by rw [List.drop_left])]
  have h4 := dec_decT q3 [] h3.1 h3.2 (.inl rfl)
  rw [List.append_nil] at h4
  rw [Rg.qs_last h4, List.drop_length]
  simp [Rg.qs]

theorem decT_digits (v : Int) (h0 : 0 ≤ v) (h1 : v ≤ 255) : (∀ c ∈ decT v, hexOk c = true) ∧ (decT v).length ≤ 3 ∧ 0 < (decT v).length := by
  unfold decT
  by_cases h2 : 100 ≤ v
  · rw [if_pos h2]
    refine ⟨fun c hc => ?_, by simp, by simp⟩
    simp at hc
    exact decide_eq_true (by omega)
  · rw [if_neg h2]
    by_cases h3 : 10 ≤ v
    · rw [if_pos h3]
      refine ⟨fun c hc => ?_, by simp, by simp⟩
      simp at hc
      exact decide_eq_true (by omega)
    · rw [if_neg h3]
      refine ⟨fun c hc => ?_, by simp, by simp⟩
      simp at hc
      exact decide_eq_true (by omega)

theorem quad_run (q0 q1 q2 q3 : Int) (h0 : 0 ≤ q0 ∧ q0 ≤ 255) : hexRun (quadL q0 q1 q2 q3) 4 = (decT q0).length ∧ (decT q0).length < (quadL q0 q1 q2 q3).length ∧ (quadL q0 q1 q2 q3).getD (decT q0).length 0 = 46 := by
  obtain ⟨ha, hb, hc⟩ := decT_digits q0 h0.1 h0.2
  have hget : (quadL q0 q1 q2 q3).getD (decT q0).length 0 = 46 := by unfold quadL; simp [List.getD]
  have hlen : (decT q0).length < (quadL q0 q1 q2 q3).length := by unfold quadL; simp
  refine ⟨Rg.hexRun_is _ 4 _ (by omega) (by omega) (fun j hj => ?_) (.inr (.inr (by rw [hget]; decide))), hlen, hget⟩
  unfold quadL
  have : (decT q0 ++ 46 :: (decT q1 ++ 46 :: (decT q2 ++ 46 :: decT q3))).getD j 0 = (decT q0)[j] := by
    simp [List.getD, List.getElem?_append, hj]
  rw [this]
  exact ha _ (List.getElem_mem _)

/-! ### the whole text reads back -/
structure TailOk (ip : Bool) (tail tailW : List Int) : Prop where
  off : ip = false → tail = [] ∧ tailW = []
  on : ip = true → ∃ q0 q1 q2 q3, (0 ≤ q0 ∧ q0 ≤ 255) ∧ (0 ≤ q1 ∧ q1 ≤ 255) ∧ (0 ≤ q2 ∧ q2 ≤ 255) ∧ (0 ≤ q3 ∧ q3 ≤ 255) ∧ tail = quadL q0 q1 q2 q3 ∧ tailW = [q0, q1, q2, q3]

theorem restW_length (f : Nat → Int) (tailW : List Int) (k m : Nat) : (restW f tailW k m).length = 2 * m + tailW.length := by
  induction m generalizing k with
  | zero => simp [restW]
  | succ m ih => simp only [restW, List.length_cons, ih]; omega

theorem rg_rest (f : Nat → Int) (up zeros ip : Bool) (tail tailW : List Int) (ht : TailOk ip tail tailW) (room : Nat) : ∀ (m k fuel : Nat) (out : List Int), (∀ j, k ≤ j → j < k + m → 0 ≤ f j ∧ f j ≤ 65535) → ¬ (m = 0 ∧ tail = []) → m < fuel →
    (out.length + (restW f tailW k m).length ≤ room → Rg.rg room ip fuel (rest f up zeros tail k m) out = (out ++ restW f tailW k m, true)) ∧
    (room < out.length + (restW f tailW k m).length → (Rg.rg room ip fuel (rest f up zeros tail k m) out).2 = false) := by
  intro m
  induction m with
  | zero =>
    intro k fuel out hf hne hfu
    have htail : tail ≠ [] := fun e => hne ⟨rfl, e⟩
    have hip : ip = true := by
      cases ip with
      | true => rfl
      | false => exact absurd (ht.off rfl).1 htail
    obtain ⟨q0, q1, q2, q3, h0, h1, h2, h3, e1, e2⟩ := ht.on hip
    obtain ⟨fu, rfl⟩ : ∃ fu, fuel = fu + 1 := ⟨fuel - 1, by omega⟩
    simp only [rest, restW]
    subst e1 e2
    obtain ⟨a, b, c⟩ := quad_run q0 q1 q2 q3 h0
    have hq := quad_reads q0 q1 q2 q3 h0 h1 h2 h3
    constructor
    · intro hr
      exact Rg.rg_dot_ok a hip b c hq (by simpa using hr)
    · intro hr
      rw [Rg.rg_dot_no a hip b c (.inr (by simpa using hr))]
  | succ m ih =>
    intro k fuel out hf hne hfu
    obtain ⟨fu, rfl⟩ : ∃ fu, fuel = fu + 1 := ⟨fuel - 1, by omega⟩
    have hW := hf k (by omega) (by omega)
    have hpos : 0 < (hexG (f k) up 4 zeros).length := hexG_pos _ _ _ _
    simp only [rest, restW, List.length_cons]
    by_cases hend : m = 0 ∧ tail = []
    · rw [if_pos hend, List.append_nil]
      have hrun := hexG_run (f k) up 4 4 zeros [] (Nat.le_refl _) (.inl rfl)
      rw [List.append_nil] at hrun
      have hval := word_val (f k) up zeros [] hW.1 hW.2
      rw [List.append_nil] at hval
      have htW : restW f tailW (k + 1) m = [] := by
        rw [hend.1]
        cases ip with
        | false => exact (ht.off rfl).2
        | true =>
          obtain ⟨q0, q1, q2, q3, _, _, _, _, e1, _⟩ := ht.on rfl
          rw [hend.2] at e1
          exact absurd (congrArg List.length e1) (by unfold quadL; simp)
      have hnd : ¬ (ip = true ∧ (hexG (f k) up 4 zeros).length < (hexG (f k) up 4 zeros).length ∧ (hexG (f k) up 4 zeros).getD (hexG (f k) up 4 zeros).length 0 = 46) := fun h => by omega
      rw [htW]
      constructor
      · intro hr
        exact Rg.rg_end hrun hval hnd (by simp at hr; omega) rfl
      · intro hr
        rw [Rg.rg_none hrun hnd (.inr (by simp at hr; omega))]
    · rw [if_neg hend]
      have hrun := hexG_run (f k) up 4 4 zeros (58 :: rest f up zeros tail (k + 1) m) (Nat.le_refl _) (.inr ⟨58, _, rfl, by decide⟩)
      have hval := word_val (f k) up zeros (58 :: rest f up zeros tail (k + 1) m) hW.1 hW.2
      have hget : (hexG (f k) up 4 zeros ++ 58 :: rest f up zeros tail (k + 1) m).getD (hexG (f k) up 4 zeros).length 0 = 58 := by simp [List.getD]
      have hnd : ¬ (ip = true ∧ (hexG (f k) up 4 zeros).length < (hexG (f k) up 4 zeros ++ 58 :: rest f up zeros tail (k + 1) m).length ∧ (hexG (f k) up 4 zeros ++ 58 :: rest f up zeros tail (k + 1) m).getD (hexG (f k) up 4 zeros).length 0 = 46) := by
        rw [hget]; exact fun h => absurd h.2.2 (by decide)
      have hne2 : ¬ (hexG (f k) up 4 zeros).length = (hexG (f k) up 4 zeros ++ 58 :: rest f up zeros tail (k + 1) m).length := by simp
      have hdrop : (hexG (f k) up 4 zeros ++ 58 :: rest f up zeros tail (k + 1) m).drop ((hexG (f k) up 4 zeros).length + 1) = rest f up zeros tail (k + 1) m := by
        rw [List.drop_append]; simp
      have hih := ih (k + 1) fu (out ++ [f k / 256, f k % 256]) (fun j h1 h2 => hf j (by omega) (by omega)) hend (by omega)
      rw [List.length_append] at hih
      simp only [List.length_cons, List.length_nil] at hih
      by_cases hroom : room < out.length + 2
      · constructor
        · intro hr; omega
        · intro _
          rw [Rg.rg_none hrun hnd (.inr hroom)]
      · rw [Rg.rg_colon hrun hval hnd (by omega) hne2 hget, hdrop]
        constructor
        · intro hr
          rw [hih.1 (by omega)]
          simp
        · intro hr
          exact hih.2 (by omega)

theorem txt_rest (f : Nat → Int) (up zeros : Bool) (tail : List Int) (n : Nat) : ∀ k, k ≤ n → rest f up zeros tail 0 n = txt f up zeros k ++ (if k = 0 ∨ (k = n ∧ tail = []) then [] else [58]) ++ rest f up zeros tail k (n - k) := by
  intro k
  induction k with
  | zero => intro _; simp [txt]
  | succ k ih =>
    intro hk
    have e1 : (if k = 0 ∨ (k = n ∧ tail = []) then ([] : List Int) else [58]) = if k = 0 then [] else [58] := by
      by_cases h0 : k = 0
      · rw [if_pos (.inl h0), if_pos h0]
      · rw [if_neg (by rintro (h | ⟨h, _⟩) <;> omega), if_neg h0]
    have e2 : (if k + 1 = 0 ∨ (k + 1 = n ∧ tail = []) then ([] : List Int) else [58]) = if n - (k + 1) = 0 ∧ tail = [] then [] else [58] := by
      by_cases he : n - (k + 1) = 0 ∧ tail = []
      · rw [if_pos (.inr ⟨by omega, he.2⟩), if_pos he]
      · rw [if_neg ?_, if_neg he]
        rintro (h | ⟨h, h2⟩)
        · omega
        · exact he ⟨by omega, h2⟩
    have e3 : txt f up zeros (k + 1) = txt f up zeros k ++ (if k = 0 then [] else [58]) ++ hexG (f k) up 4 zeros := by
      rw [txt]
      by_cases h0 : k = 0
      · rw [if_pos h0, if_pos h0, h0]; simp [txt]
      · rw [if_neg h0, if_neg h0]
    rw [ih (by omega), e1, e2, e3, show n - k = (n - (k + 1)) + 1 by omega, rest]
    by_cases he : n - (k + 1) = 0 ∧ tail = []
    · rw [if_pos he, if_pos he, he.1, rest, he.2]
      simp
    · rw [if_neg he, if_neg he]
      simp

theorem wnt_rest (f : Nat → Int) (tailW : List Int) (n : Nat) : ∀ k, k ≤ n → restW f tailW 0 n = wnt f k ++ restW f tailW k (n - k) := by
  intro k
  induction k with
  | zero => intro _; simp [wnt]
  | succ k ih =>
    intro hk
    rw [ih (by omega), show n - k = (n - (k + 1)) + 1 by omega]
    simp [restW, wnt]

theorem full_rest (f : Nat → Int) (n : Nat) (up zeros quad : Bool) (q0 q1 q2 q3 : Int) : fullT f n up zeros quad q0 q1 q2 q3 = rest f up zeros (if quad = true then quadL q0 q1 q2 q3 else []) 0 n := by
  rw [txt_rest f up zeros _ n n (Nat.le_refl _), Nat.sub_self]
  unfold fullT
  cases quad
  · simp only [rest]
    by_cases h : n = 0 <;> simp [h]
  · have hq : quadL q0 q1 q2 q3 ≠ [] := by unfold quadL; simp
    simp only [rest, if_true]
    unfold quadT quadL
    by_cases h : n = 0 <;> simp [h]

theorem fullW_rest (f : Nat → Int) (n : Nat) (quad : Bool) (q0 q1 q2 q3 : Int) : fullW f n quad q0 q1 q2 q3 = restW f (if quad = true then [q0, q1, q2, q3] else []) 0 n := by
  rw [wnt_rest f _ n n (Nat.le_refl _), Nat.sub_self]
  rfl

theorem tail_ok (quad : Bool) (q0 q1 q2 q3 : Int) (h0 : 0 ≤ q0 ∧ q0 ≤ 255) (h1 : 0 ≤ q1 ∧ q1 ≤ 255) (h2 : 0 ≤ q2 ∧ q2 ≤ 255) (h3 : 0 ≤ q3 ∧ q3 ≤ 255) : TailOk quad (if quad = true then quadL q0 q1 q2 q3 else []) (if quad = true then [q0, q1, q2, q3] else []) := by
  cases quad
  · exact ⟨fun _ => ⟨rfl, rfl⟩, fun h => by cases h⟩
  · exact ⟨(fun h => by cases h), fun _ => ⟨q0, q1, q2, q3, h0, h1, h2, h3, rfl, rfl⟩⟩

theorem rest_length (f : Nat → Int) (up zeros : Bool) (tail : List Int) (k m : Nat) : m ≤ (rest f up zeros tail k m).length := by
  induction m generalizing k with
  | zero => simp
  | succ m ih =>
    have hpos : 0 < (hexG (f k) up 4 zeros).length := hexG_pos _ _ _ _
    have := ih (k + 1)
    simp only [rest, List.length_append]
    by_cases h : m = 0 ∧ tail = []
    · rw [if_pos h]; simp; omega
    · rw [if_neg h]; simp; omega

/-- THE ROUND TRIP. -/
theorem round_trip (f : Nat → Int) (n : Nat) (up zeros quad : Bool) (q0 q1 q2 q3 : Int) (hf : ∀ j, j < n → 0 ≤ f j ∧ f j ≤ 65535) (h0 : 0 ≤ q0 ∧ q0 ≤ 255) (h1 : 0 ≤ q1 ∧ q1 ≤ 255) (h2 : 0 ≤ q2 ∧ q2 ≤ 255) (h3 : 0 ≤ q3 ∧ q3 ≤ 255) (room : Nat) :
    ((fullW f n quad q0 q1 q2 q3).length ≤ room → Rg.rgs room quad (fullT f n up zeros quad q0 q1 q2 q3) = (fullW f n quad q0 q1 q2 q3, true)) ∧
    (room < (fullW f n quad q0 q1 q2 q3).length → (Rg.rgs room quad (fullT f n up zeros quad q0 q1 q2 q3)).2 = false) := by
  have ht := tail_ok quad q0 q1 q2 q3 h0 h1 h2 h3
  rw [full_rest, fullW_rest]
  by_cases he : n = 0 ∧ (if quad = true then quadL q0 q1 q2 q3 else []) = []
  · have hq : quad = false := by
      cases quad with
      | false => rfl
      | true => exact absurd he.2 (by unfold quadL; simp)
    subst hq
    rw [he.1]
    simp [rest, restW, Rg.rgs]
  · have hl := rest_length f up zeros (if quad = true then quadL q0 q1 q2 q3 else []) 0 n
    have hne : rest f up zeros (if quad = true then quadL q0 q1 q2 q3 else []) 0 n ≠ [] := by
      intro e
      have hn0 : n = 0 := by rw [e] at hl; simpa using hl
      rw [hn0] at e
      exact he ⟨hn0, e⟩
    have h := rg_rest f up zeros quad _ _ ht room n 0 ((rest f up zeros (if quad = true then quadL q0 q1 q2 q3 else []) 0 n).length + 1) [] (fun j _ hj => hf j (by omega)) he (by omega)
    unfold Rg.rgs
    rw [if_neg hne]
    simpa using h

/-! ### sizes and ranges -/
theorem txt_length (f : Nat → Int) (up zeros : Bool) (k : Nat) : (txt f up zeros k).length ≤ 5 * k := by
  induction k with
  | zero => simp [txt]
  | succ k ih =>
    have := hexG_length (f k) up 4 zeros
    simp only [txt, List.length_append]
    by_cases h : k = 0
    · rw [if_pos h]; simp; omega
    · rw [if_neg h]; simp; omega
theorem wnt_length (f : Nat → Int) (k : Nat) : (wnt f k).length = 2 * k := by
  induction k with
  | zero => simp [wnt]
  | succ k ih => simp only [wnt, List.length_append, ih]; simp; omega

def InByte (l : List Int) : Prop := ∀ c ∈ l, 0 ≤ c ∧ c ≤ 255
theorem InByte.append {a b : List Int} (h1 : InByte a) (h2 : InByte b) : InByte (a ++ b) := by
  intro c hc
  rw [List.mem_append] at hc
  rcases hc with hc | hc
  · exact h1 c hc
  · exact h2 c hc
theorem hexG_byte (W : Int) (up : Bool) (k : Nat) (st : Bool) : InByte (hexG W up k st) := by
  induction k generalizing st with
  | zero => intro c hc; simp [hexG] at hc
  | succ k ih =>
    have hr := dgt_range W k
    simp only [hexG]
    split
    · intro c hc
      rw [List.mem_cons] at hc
      rcases hc with rfl | hc
      · unfold hexC
        split
        · omega
        · split <;> omega
      · exact ih true c hc
    · exact ih false
theorem one_byte (c : Int) (h : 0 ≤ c ∧ c ≤ 255) : InByte [c] := by
  intro d hd
  rw [List.mem_singleton] at hd
  subst hd
  exact h
theorem txt_byte (f : Nat → Int) (up zeros : Bool) (k : Nat) : InByte (txt f up zeros k) := by
  induction k with
  | zero => intro c hc; simp [txt] at hc
  | succ k ih =>
    simp only [txt]
    refine InByte.append ?_ (hexG_byte _ _ _ _)
    split
    · intro c hc; simp at hc
    · exact ih.append (one_byte _ (by decide))
theorem decT_byte (v : Int) (h0 : 0 ≤ v) (h1 : v ≤ 255) : InByte (decT v) := by
  intro c hc
  have := (decT_digits v h0 h1).1 c hc
  have h2 : 48 ≤ c ∧ c ≤ 57 ∨ 97 ≤ c ∧ c ≤ 102 ∨ 65 ≤ c ∧ c ≤ 70 := of_decide_eq_true this
  omega
theorem fullT_byte (f : Nat → Int) (n : Nat) (up zeros quad : Bool) (q0 q1 q2 q3 : Int) (h0 : 0 ≤ q0 ∧ q0 ≤ 255) (h1 : 0 ≤ q1 ∧ q1 ≤ 255) (h2 : 0 ≤ q2 ∧ q2 ≤ 255) (h3 : 0 ≤ q3 ∧ q3 ≤ 255) : InByte (fullT f n up zeros quad q0 q1 q2 q3) := by
  unfold fullT
  refine (txt_byte f up zeros n).append ?_
  split
  · unfold quadT
    refine ((((((InByte.append ?_ (decT_byte _ h0.1 h0.2)).append (one_byte _ (by decide))).append (decT_byte _ h1.1 h1.2)).append (one_byte _ (by decide))).append (decT_byte _ h2.1 h2.2)).append (one_byte _ (by decide))).append (decT_byte _ h3.1 h3.2)
    split
    · intro c hc; simp at hc
    · exact one_byte _ (by decide)
  · intro c hc; simp at hc

theorem bs_strOfNums (xs : List Int) (h : InByte xs) : bs (strOfNums xs) = xs := by
  unfold bs
  rw [strOfNums_data, List.map_map]
  conv => rhs; rw [← List.map_id xs]
  apply List.map_congr_left
  intro c hc
  have := h c hc
  show ((UInt8.ofNat c.toNat).toNat : Int) = c
  rw [UInt8.toNat_ofNat']
  omega

end Go.Proofs.Qxb6605336a
