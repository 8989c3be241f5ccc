/-
  READING GROUPS EXACTLY, THE PLAIN LAW: the model that first cuts at every colon says what readGroups says. No Go in sight.
-/
import Derived.Test.Qxb6605336aRg
namespace Go.Proofs.Qxb6605336a.Rg

/-! ### the dotted quad, byte by byte -/
/-- k numbers to come, this one's value so far v, of d digits; r is left. -/
def qc : Nat → Int → Nat → List Int → Option (List Int)
  | k, v, d, [] => if d = 0 ∨ k = 0 then none else if k = 1 then some [v] else none
  | k, v, d, c :: r => if c = 46 then (if d = 0 ∨ k = 0 then none else (qc (k - 1) 0 0 r).map (fun q => v :: q))
      else if digB c = true then (if d = 1 ∧ v = 0 then none else if d = 3 then none else if 255 < v * 10 + (c - 48) then none else qc k (v * 10 + (c - 48)) (d + 1) r) else none

theorem qc_zero : ∀ (r : List Int) (v : Int) (d : Nat), qc 0 v d r = none
  | [], v, d => by simp [qc]
  | c :: r, v, d => by
    simp only [qc]
    split
    · simp
    · split
      · split
        · rfl
        · split
          · rfl
          · split
            · rfl
            · exact qc_zero r _ _
      · rfl

theorem digB_dot : digB 46 = false := by decide

/-- The first number and what is behind it. -/
def behind (k : Nat) : Option (Int × Nat) → Nat → List Int → Option (List Int)
  | none, _, _ => none
  | some (x, n), d, r => match r.drop (n - d) with
    | [] => if k = 1 then some [x] else none
    | c :: r' => if c = 46 then (qc (k - 1) 0 0 r').map (fun q => x :: q) else none

theorem qc_dec : ∀ (r : List Int) (k : Nat) (v : Int) (d : Nat), k ≠ 0 → d ≤ 3 → 0 ≤ v → v ≤ 255 → (d = 3 → 100 ≤ v) → (d = 2 → 10 ≤ v) → qc k v d r = behind k (decGo r v d) d r
  | [], k, v, d, hk, hd, h0, h1, h2, h3 => by
    simp only [qc, decGo]
    by_cases hd0 : d = 0
    · rw [if_pos (.inl hd0), if_pos hd0]; rfl
    · rw [if_neg (by omega), if_neg hd0]
      simp [behind]
  | c :: r, k, v, d, hk, hd, h0, h1, h2, h3 => by
    simp only [qc, decGo]
    by_cases hc : c = 46
    · have hnd : ¬ digB c = true := by rw [hc, digB_dot]; decide
      rw [if_pos hc, if_neg hnd]
      by_cases hd0 : d = 0
      · rw [if_pos (.inl hd0), if_pos hd0]; rfl
      · rw [if_neg (by omega), if_neg hd0]
        simp [behind, hc]
    · rw [if_neg hc]
      by_cases hdg : digB c = true
      · rw [if_pos hdg, if_pos hdg]
        have hcr : 48 ≤ c ∧ c ≤ 57 := of_decide_eq_true hdg
        by_cases hz : d = 1 ∧ v = 0
        · rw [if_pos hz, if_pos hz]; rfl
        · rw [if_neg hz, if_neg hz]
          by_cases h33 : d = 3
          · rw [if_pos h33, if_pos (by have := h2 h33; omega)]; rfl
          · rw [if_neg h33]
            by_cases hb : 255 < v * 10 + (c - 48)
            · rw [if_pos hb, if_pos hb]; rfl
            · rw [if_neg hb, if_neg hb, qc_dec r k _ (d + 1) hk (by omega) (by omega) (by omega) (by omega) (by omega)]
              cases hdec : decGo r (v * 10 + (c - 48)) (d + 1) with
              | none => rfl
              | some xn =>
                obtain ⟨x, n⟩ := xn
                have hbd := decGo_bound r _ _ x n hdec (by omega) (by omega)
                simp only [behind]
                rw [show n - d = (n - (d + 1)) + 1 by omega, List.drop_succ_cons]
      · rw [if_neg hdg, if_neg hdg]
        by_cases hd0 : d = 0
        · rw [if_pos hd0]; rfl
        · rw [if_neg hd0]
          simp [behind, hc]

theorem qc_qs : ∀ (k : Nat) (l : List Int), k ≠ 0 → qc k 0 0 l = qs k l
  | 0, l, h => absurd rfl h
  | k + 1, l, _ => by
    rw [qc_dec l (k + 1) 0 0 (by omega) (by omega) (by omega) (by omega) (by omega) (by omega)]
    simp only [qs]
    cases hd : dec l with
    | none =>
      have : decGo l 0 0 = none := hd
      rw [this]; rfl
    | some vn =>
      obtain ⟨v, n⟩ := vn
      have : decGo l 0 0 = some (v, n) := hd
      rw [this]
      simp only [behind, Nat.sub_zero]
      by_cases hk : k = 0
      · subst hk
        cases hr : l.drop n with
        | nil => simp
        | cons c r =>
          simp only [if_true]
          by_cases hc : c = 46
          · simp [hc, qc_zero]
          · simp [hc]
      · rw [if_neg hk]
        cases hr : l.drop n with
        | nil => simp [hk]
        | cons c r =>
          simp only [Nat.add_sub_cancel]
          by_cases hc : c = 46
          · simp only [hc, if_true]
            rw [qc_qs k r hk]
          · simp only [if_neg hc]

/-- A dotted quad holds digits and dots alone. -/
theorem qc_bytes : ∀ (r : List Int) (k : Nat) (v : Int) (d : Nat) (q : List Int), qc k v d r = some q → ∀ c ∈ r, c ≠ 58
  | [], _, _, _, _, _ => by intro c hc; simp at hc
  | c :: r, k, v, d, q, h => by
    simp only [qc] at h
    intro x hx
    rw [List.mem_cons] at hx
    by_cases hc : c = 46
    · rw [if_pos hc] at h
      split at h
      · cases h
      · rw [Option.map_eq_some_iff] at h
        obtain ⟨q', hq, _⟩ := h
        rcases hx with rfl | hx
        · omega
        · exact qc_bytes r _ _ _ q' hq x hx
    · rw [if_neg hc] at h
      split at h
      · rename_i hdg
        have hcr : 48 ≤ c ∧ c ≤ 57 := of_decide_eq_true hdg
        split at h
        · cases h
        · split at h
          · cases h
          · split at h
            · cases h
            · rcases hx with rfl | hx
              · omega
              · exact qc_bytes r _ _ _ q h x hx
      · cases h

theorem qs_bytes {l q : List Int} (h : qs 4 l = some q) : ∀ c ∈ l, c ≠ 58 := by
  rw [← qc_qs 4 l (by decide)] at h
  exact qc_bytes l 4 0 0 q h

/-- A number has three digits at most, and they are hex digits. -/
theorem decGo_digits : ∀ (l : List Int) (v : Int) (d : Nat) (x : Int) (n : Nat), decGo l v d = some (x, n) → d ≤ 3 → 0 ≤ v → (d = 3 → 100 ≤ v) → (d = 2 → 10 ≤ v) → n ≤ 3 ∧ ∀ j, j < n - d → hexOk (l.getD j 0) = true
  | [], v, d, x, n, h, hd, h0, h3, h2 => by
    simp only [decGo] at h
    split at h
    · cases h
    · simp only [Option.some.injEq, Prod.mk.injEq] at h
      exact ⟨by omega, fun j hj => by omega⟩
  | c :: l, v, d, x, n, h, hd, h0, h3, h2 => by
    simp only [decGo] at h
    split at h
    · rename_i hdg
      have hcr : 48 ≤ c ∧ c ≤ 57 := of_decide_eq_true hdg
      split at h
      · cases h
      · split at h
        · cases h
        · rename_i hz hb
          have hd3 : d ≠ 3 := fun e => by have := h3 e; omega
          have ih := decGo_digits l _ _ x n h (by omega) (by omega) (by omega) (by omega)
          refine ⟨ih.1, fun j hj => ?_⟩
          cases j with
          | zero => exact decide_eq_true (by simp [List.getD]; omega)
          | succ j => simpa [List.getD] using ih.2 j (by omega)
    · split at h
      · cases h
      · simp only [Option.some.injEq, Prod.mk.injEq] at h
        exact ⟨by omega, fun j hj => by omega⟩
theorem dec_digits {l : List Int} {v : Int} {n : Nat} (h : dec l = some (v, n)) : n ≤ 3 ∧ ∀ j, j < n → hexOk (l.getD j 0) = true := by
  have := decGo_digits l 0 0 v n h (by omega) (by omega) (by omega) (by omega)
  simpa using this

/-! ### the pieces -/
def pcs : List Int → List (List Int)
  | [] => [[]]
  | c :: l => if c = 58 then [] :: pcs l else match pcs l with
    | [] => [[c]]
    | p :: ps => (c :: p) :: ps

theorem pcs_first : ∀ l : List Int, ∃ p ps, pcs l = p :: ps ∧ (∀ c ∈ p, c ≠ 58) ∧ ((ps = [] ∧ l = p) ∨ ∃ l', l = p ++ 58 :: l' ∧ ps = pcs l')
  | [] => ⟨[], [], rfl, (by intro c hc; simp at hc), .inl ⟨rfl, rfl⟩⟩
  | c :: l => by
    obtain ⟨p, ps, h1, h2, h3⟩ := pcs_first l
    by_cases hc : c = 58
    · exact ⟨[], pcs l, by simp [pcs, hc], (by intro x hx; simp at hx), .inr ⟨l, by simp [hc], rfl⟩⟩
    · refine ⟨c :: p, ps, by simp [pcs, hc, h1], ?_, ?_⟩
      · intro x hx
        rw [List.mem_cons] at hx
        rcases hx with rfl | hx
        · exact hc
        · exact h2 x hx
      · rcases h3 with ⟨h3, h4⟩ | ⟨l', h3, h4⟩
        · exact .inl ⟨h3, by rw [h4]⟩
        · exact .inr ⟨l', by rw [h3]; rfl, h4⟩

theorem pcs_ne (l : List Int) : pcs l ≠ [] := by
  obtain ⟨p, ps, h, _⟩ := pcs_first l
  rw [h]; simp

/-- A piece's two bytes. -/
def gb (p : List Int) : List Int := [hexVal p (hexRun p 4) / 256, hexVal p (hexRun p 4) % 256]
def dotB (p : List Int) : Bool := decide (hexRun p 4 < p.length ∧ p.getD (hexRun p 4) 0 = 46)

/-- A dotted quad's run of hex digits ends at a dot. -/
theorem quad_dot {p q : List Int} (h : qs 4 p = some q) : dotB p = true := by
  simp only [qs] at h
  cases hd : dec p with
  | none => rw [hd] at h; cases h
  | some vn =>
    obtain ⟨v, n⟩ := vn
    rw [hd] at h
    simp only [] at h
    rw [if_neg (by omega)] at h
    have hb := dec_bound hd
    cases hr : p.drop n with
    | nil => rw [hr] at h; cases h
    | cons c r =>
      rw [hr] at h
      simp only [] at h
      by_cases hc : c = 46
      · subst hc
        have hn3 := dec_digits hd
        have hget : p.getD n 0 = 46 := by
          have : p[n]? = some 46 := by
            have h2 : (p.drop n)[0]? = some 46 := by rw [hr]; rfl
            rw [List.getElem?_drop] at h2
            simpa using h2
          simp [List.getD, this]
        have hlt : n < p.length := by
          have := congrArg List.length hr
          simp at this
          omega
        have hrun : hexRun p 4 = n := hexRun_is p 4 n (by omega) (by omega) hn3.2 (.inr (.inr (by rw [hget]; decide)))
        exact decide_eq_true (by rw [hrun]; exact ⟨hlt, hget⟩)
      · rw [if_neg hc] at h; cases h

/-- readGroups over the pieces. -/
def rgP (room : Nat) (ip : Bool) : List (List Int) → List Int → List Int × Bool
  | [], out => (out, false)
  | p :: ps, out => if ip = true ∧ dotB p = true then
      (if ps = [] then (match qs 4 p with
        | some q => if out.length + 4 ≤ room then (out ++ q, true) else (out, false)
        | none => (out, false)) else (out, false))
    else if hexRun p 4 = 0 ∨ room < out.length + 2 then (out, false)
    else if hexRun p 4 = p.length then (if ps = [] then (out ++ gb p, true) else rgP room ip ps (out ++ gb p))
    else (out ++ gb p, false)

theorem hexRun_app : ∀ (p r : List Int) (b : Nat), (r = [] ∨ ∃ r', r = 58 :: r') → hexRun (p ++ r) b = hexRun p b
  | [], r, b, h => by
    rcases h with rfl | ⟨r', rfl⟩
    · rfl
    · cases b with
      | zero => simp [hexRun]
      | succ b => simp only [List.nil_append, hexRun]; rw [if_neg (by decide)]
  | c :: p, r, b, h => by
    cases b with
    | zero => simp [hexRun]
    | succ b =>
      simp only [List.cons_append, hexRun]
      rw [hexRun_app p r b h]

theorem hexVal_app (p r : List Int) : ∀ k, k ≤ p.length → hexVal (p ++ r) k = hexVal p k
  | 0, _ => rfl
  | k + 1, h => by
    simp only [hexVal]
    rw [hexVal_app p r k (by omega)]
    congr 2
    simp only [List.getD]
    rw [List.getElem?_append_left (by omega)]

theorem rg_pcs (room : Nat) (ip : Bool) : ∀ (fuel : Nat) (l out : List Int), l.length < fuel → rg room ip fuel l out = rgP room ip (pcs l) out
  | 0, l, out, h => by omega
  | fuel + 1, l, out, h => by
    obtain ⟨p, ps, hp, hno, hcase⟩ := pcs_first l
    rw [hp]
    have hle := hexRun_le p 4
    rcases hcase with ⟨rfl, rfl⟩ | ⟨l', rfl, rfl⟩
    · simp only [rg, rgP, dotB, decide_eq_true_iff, gb, if_true]
      by_cases hd : ip = true ∧ hexRun l 4 < l.length ∧ l.getD (hexRun l 4) 0 = 46
      · rw [if_pos hd, if_pos hd]
        cases qs 4 l <;> rfl
      · rw [if_neg hd, if_neg hd]
        by_cases h0 : hexRun l 4 = 0 ∨ room < out.length + 2
        · rw [if_pos h0, if_pos h0]
        · rw [if_neg h0, if_neg h0]
          by_cases h1 : hexRun l 4 = l.length
          · rw [if_pos h1, if_pos h1]
          · rw [if_neg h1, if_neg h1]
            have hlt : hexRun l 4 < l.length := by omega
            have : l.getD (hexRun l 4) 0 ≠ 58 := by
              apply hno
              simp only [List.getD, List.getElem?_eq_getElem hlt, Option.getD_some]
              exact List.getElem_mem _
            rw [if_neg this]
    · have hr : hexRun (p ++ 58 :: l') 4 = hexRun p 4 := hexRun_app p _ 4 (.inr ⟨l', rfl⟩)
      have hv : hexVal (p ++ 58 :: l') (hexRun p 4) = hexVal p (hexRun p 4) := hexVal_app p _ _ hle.2
      have hne := pcs_ne l'
      have hlen : (p ++ 58 :: l').length = p.length + 1 + l'.length := by simp; omega
      have hget : hexRun p 4 < p.length → (p ++ 58 :: l').getD (hexRun p 4) 0 = p.getD (hexRun p 4) 0 := by
        intro hlt
        simp only [List.getD]
        rw [List.getElem?_append_left hlt]
      have hget2 : hexRun p 4 = p.length → (p ++ 58 :: l').getD (hexRun p 4) 0 = 58 := by
        intro he
        rw [he]
        simp [List.getD]
      simp only [rg, rgP, hr, hv, dotB, decide_eq_true_iff]
      by_cases hd : ip = true ∧ hexRun p 4 < p.length ∧ p.getD (hexRun p 4) 0 = 46
      · rw [if_pos ⟨hd.1, by omega, by rw [hget hd.2.1]; exact hd.2.2⟩, if_pos hd, if_neg hne]
        cases hq : qs 4 (p ++ 58 :: l') with
        | none => rfl
        | some q => exact absurd rfl (qs_bytes hq 58 (by simp))
      · have hd2 : ¬ (ip = true ∧ hexRun p 4 < (p ++ 58 :: l').length ∧ (p ++ 58 :: l').getD (hexRun p 4) 0 = 46) := by
          rintro ⟨h1, h2, h3⟩
          by_cases he : hexRun p 4 = p.length
          · rw [hget2 he] at h3; omega
          · exact hd ⟨h1, by omega, by rw [← hget (by omega)]; exact h3⟩
        rw [if_neg hd2, if_neg hd]
        by_cases h0 : hexRun p 4 = 0 ∨ room < out.length + 2
        · rw [if_pos h0, if_pos h0]
        · rw [if_neg h0, if_neg h0, if_neg (by omega : ¬ hexRun p 4 = (p ++ 58 :: l').length)]
          by_cases h1 : hexRun p 4 = p.length
          · rw [if_pos (hget2 h1), if_pos h1, if_neg hne]
            have hdrop : (p ++ 58 :: l').drop (hexRun p 4 + 1) = l' := by rw [h1, List.drop_append]; simp
            rw [hdrop, rg_pcs room ip fuel l' _ (by omega)]
            rfl
          · have hlt : hexRun p 4 < p.length := by omega
            have : p.getD (hexRun p 4) 0 ≠ 58 := by
              apply hno
              simp only [List.getD, List.getElem?_eq_getElem hlt, Option.getD_some]
              exact List.getElem_mem _
            rw [hget hlt, if_neg this, if_neg h1]
            rfl

/-! ### the model, whole -/
def grp (p : List Int) : Bool := decide (1 ≤ p.length ∧ p.length ≤ 4 ∧ hexRun p 4 = p.length)
/-- How many groups the pieces begin with. -/
def lead : List (List Int) → Nat
  | [] => 0
  | p :: ps => if grp p = true then lead ps + 1 else 0
/-- The pieces' bytes. -/
def gbs : List (List Int) → List Int
  | [] => []
  | p :: ps => gb p ++ gbs ps
/-- Does the first piece that is no group give bytes of its own? -/
def tryB (ip : Bool) (p : List Int) : Bool := decide (0 < hexRun p 4) && !(ip && dotB p)
/-- The quad that ends it all. -/
def endQ (ip : Bool) (r : Nat) (ps : List (List Int)) : Option (List Int) :=
  if ip = true ∧ lead ps + 1 = ps.length ∧ 2 * lead ps + 4 ≤ r then qs 4 (ps.getD (lead ps) []) else none
def wide (ip : Bool) (r : Nat) (ps : List (List Int)) : Nat := min (if tryB ip (ps.getD (lead ps) []) = true then lead ps + 1 else lead ps) (r / 2)
def model (ip : Bool) (r : Nat) (ps : List (List Int)) : List Int × Bool :=
  if lead ps = ps.length then (if 2 * ps.length ≤ r then (gbs ps, true) else (gbs (ps.take (r / 2)), false))
  else match endQ ip r ps with
    | some q => (gbs (ps.take (lead ps)) ++ q, true)
    | none => (gbs (ps.take (wide ip r ps)), false)

theorem lead_le (ps : List (List Int)) : lead ps ≤ ps.length := by
  induction ps with
  | nil => simp [lead]
  | cons p ps ih => simp only [lead]; split <;> simp <;> omega

theorem grp_is {p : List Int} (h : grp p = true) : 1 ≤ p.length ∧ p.length ≤ 4 ∧ hexRun p 4 = p.length := of_decide_eq_true h
theorem grp_dot {p : List Int} (h : grp p = true) : dotB p = false := by
  have := grp_is h
  exact decide_eq_false (by rw [this.2.2]; omega)
theorem not_grp {p : List Int} (h : grp p = false) (h1 : 0 < hexRun p 4) : hexRun p 4 ≠ p.length := by
  have hle := hexRun_le p 4
  have := of_decide_eq_false h
  intro e
  exact this ⟨by omega, by omega, e⟩

/-- A group ahead. -/
theorem model_group (ip : Bool) (r : Nat) (p : List Int) (ps : List (List Int)) (h : grp p = true) (hr : 2 ≤ r) : model ip r (p :: ps) = (gb p ++ (model ip (r - 2) ps).1, (model ip (r - 2) ps).2) := by
  have hl : lead (p :: ps) = lead ps + 1 := by simp [lead, h]
  have hmost : r / 2 = (r - 2) / 2 + 1 := by omega
  have hQ : endQ ip r (p :: ps) = endQ ip (r - 2) ps := by
    unfold endQ
    rw [hl]
    have e : (p :: ps).getD (lead ps + 1) [] = ps.getD (lead ps) [] := by simp [List.getD]
    rw [e]
    by_cases hc : ip = true ∧ lead ps + 1 = ps.length ∧ 2 * lead ps + 4 ≤ r - 2
    · rw [if_pos hc, if_pos ⟨hc.1, by simp; omega, by omega⟩]
    · rw [if_neg hc, if_neg (by rintro ⟨a, b, c⟩; simp at b; exact hc ⟨a, by omega, by omega⟩)]
  have hW : wide ip r (p :: ps) = wide ip (r - 2) ps + 1 := by
    unfold wide
    rw [hl, hmost]
    have e : (p :: ps).getD (lead ps + 1) [] = ps.getD (lead ps) [] := by simp [List.getD]
    rw [e]
    split <;> omega
  unfold model
  rw [hl, hQ, hW, hmost]
  by_cases hall : lead ps = ps.length
  · rw [if_pos (by simp; omega), if_pos hall]
    by_cases hroom : 2 * ps.length ≤ r - 2
    · rw [if_pos hroom, if_pos (by simp; omega)]; rfl
    · rw [if_neg hroom, if_neg (by simp; omega)]; rfl
  · rw [if_neg (by simp; omega), if_neg hall]
    cases endQ ip (r - 2) ps with
    | none => rfl
    | some q => simp [gbs]

/-- A group ahead, and no room for it. -/
theorem model_full (ip : Bool) (r : Nat) (p : List Int) (ps : List (List Int)) (h : grp p = true) (hr : r < 2) : model ip r (p :: ps) = ([], false) := by
  have hl : lead (p :: ps) = lead ps + 1 := by simp [lead, h]
  have hmost : r / 2 = 0 := by omega
  have hQ : endQ ip r (p :: ps) = none := by
    unfold endQ
    rw [if_neg (by rintro ⟨_, _, c⟩; omega)]
  have hW : wide ip r (p :: ps) = 0 := by unfold wide; rw [hmost]; omega
  unfold model
  rw [hQ, hW, hmost]
  by_cases hall : lead (p :: ps) = (p :: ps).length
  · rw [if_pos hall, if_neg (by simp; omega)]; rfl
  · rw [if_neg hall]; rfl

theorem rgP_model (room : Nat) (ip : Bool) : ∀ (ps : List (List Int)) (out : List Int) (r : Nat), ps ≠ [] → out.length + r = room → rgP room ip ps out = (out ++ (model ip r ps).1, (model ip r ps).2)
  | [], out, r, h, _ => absurd rfl h
  | p :: ps, out, r, _, hr => by
    simp only [rgP]
    cases hg : grp p with
    | true =>
      have hgi := grp_is hg
      have hd := grp_dot hg
      rw [if_neg (by rw [hd]; simp)]
      by_cases hroom : r < 2
      · rw [if_pos (.inr (by omega)), model_full ip r p ps hg hroom]; simp
      · rw [if_neg (by omega), if_pos hgi.2.2]
        by_cases hps : ps = []
        · rw [if_pos hps]
          subst hps
          have hm : model ip r [p] = (gb p, true) := by
            unfold model
            rw [if_pos (by simp [lead, hg]), if_pos (by simp; omega)]
            simp [gbs]
          rw [hm]
        · rw [if_neg hps, rgP_model room ip ps (out ++ gb p) (r - 2) hps (by simp [gb]; omega), model_group ip r p ps hg (by omega)]
          simp
    | false =>
      have hl : lead (p :: ps) = 0 := by simp [lead, hg]
      have hne : ¬ lead (p :: ps) = (p :: ps).length := by rw [hl]; simp
      have hQ : endQ ip r (p :: ps) = if ip = true ∧ ps = [] ∧ 4 ≤ r then qs 4 p else none := by
        unfold endQ
        rw [hl]
        by_cases hc : ip = true ∧ ps = [] ∧ 4 ≤ r
        · rw [if_pos hc, if_pos ⟨hc.1, by simp [hc.2.1], by omega⟩]; simp [List.getD]
        · rw [if_neg hc, if_neg (by rintro ⟨a, b, c⟩; exact hc ⟨a, List.eq_nil_of_length_eq_zero (by simpa using b.symm), by omega⟩)]
      have hW : wide ip r (p :: ps) = min (if tryB ip p = true then 1 else 0) (r / 2) := by
        unfold wide
        rw [hl]
        simp [List.getD]
      have hmodel : model ip r (p :: ps) = match endQ ip r (p :: ps) with
          | some q => (q, true)
          | none => (gbs ((p :: ps).take (wide ip r (p :: ps))), false) := by
        unfold model
        rw [if_neg hne, hl]
        cases endQ ip r (p :: ps) <;> simp [gbs]
      by_cases hd : ip = true ∧ dotB p = true
      · rw [if_pos hd]
        have ht : tryB ip p = false := by unfold tryB; rw [hd.1, hd.2]; simp
        have hW0 : wide ip r (p :: ps) = 0 := by rw [hW, ht]; simp
        rw [hmodel, hW0, hQ]
        by_cases hps : ps = []
        · rw [if_pos hps]
          by_cases h4 : 4 ≤ r
          · rw [if_pos ⟨hd.1, hps, h4⟩]
            cases qs 4 p with
            | none => simp [gbs]
            | some q => simp only []; rw [if_pos (by omega)]
          · rw [if_neg (by rintro ⟨_, _, c⟩; omega)]
            cases qs 4 p with
            | none => simp [gbs]
            | some q => simp only []; rw [if_neg (by omega)]; simp [gbs]
        · rw [if_neg hps, if_neg (by rintro ⟨_, b, _⟩; exact hps b)]
          simp [gbs]
      · rw [if_neg hd]
        have hQn : endQ ip r (p :: ps) = none := by
          rw [hQ]
          by_cases hc : ip = true ∧ ps = [] ∧ 4 ≤ r
          · rw [if_pos hc]
            cases hq : qs 4 p with
            | none => rfl
            | some q => exact absurd ⟨hc.1, quad_dot hq⟩ hd
          · rw [if_neg hc]
        rw [hmodel, hQn]
        have ht : tryB ip p = decide (0 < hexRun p 4) := by
          unfold tryB
          have : (ip && dotB p) = false := by
            cases hi : ip with
            | false => rfl
            | true =>
              cases hdd : dotB p with
              | false => rfl
              | true => exact absurd ⟨hi, hdd⟩ hd
          rw [this]; simp
        by_cases h0 : hexRun p 4 = 0 ∨ room < out.length + 2
        · rw [if_pos h0]
          have hW0 : wide ip r (p :: ps) = 0 := by
            rw [hW, ht]
            rcases h0 with h0 | h0
            · rw [h0]; simp
            · omega
          rw [hW0]
          simp [gbs]
        · rw [if_neg h0, if_neg (not_grp hg (by omega))]
          have hW1 : wide ip r (p :: ps) = 1 := by
            rw [hW, ht, decide_eq_true (by omega)]
            simp
            omega
          rw [hW1]
          simp [gbs]

/-- THE LAW: readGroups says what the model says. -/
theorem rgs_model (room : Nat) (ip : Bool) (l : List Int) (h : l ≠ []) : rgs room ip l = model ip room (pcs l) := by
  unfold rgs
  rw [if_neg h, rg_pcs room ip _ l [] (Nat.lt_succ_self _), rgP_model room ip (pcs l) [] room (pcs_ne l) (by simp)]
  simp

end Go.Proofs.Qxb6605336a.Rg
