/-
  WALKS on the road of readGroups: the small ones (42, 43, 36, 39), the decimal number (44).
-/
import Derived.Test.Qxb6605336aRg
import Derived.Test.Qxb6605336aSearchB
namespace Go.Proofs.Qxb6605336a
open Go.RowKit Go.Deep Go.ChangeAt Go.WideShapes Go.ChangeShapes
open Rg (hexOk hexD digB)

theorem lower42 (c : Int) (w : World) (h : 0 ≤ c ∧ c ≤ 255) : Calls Try.prog 42 #[.int .u8 c] w fun e w' => e = .returned (.int .u8 (if 65 ≤ c ∧ c ≤ 90 then c + 32 else c)) ∧ w' = w := by
  obtain ⟨h0, h1⟩ := h
  by_cases a : 65 ≤ c
  · by_cases b : c ≤ 90
    · rw [if_pos ⟨a, b⟩]
      go_enter Try.func42, Try.ntmps42
      go_wp2
      go_ret
      exact ⟨by go_num, rfl⟩
    · rw [if_neg (by omega)]
      go_enter Try.func42, Try.ntmps42
      go_wp2
      go_ret
      exact ⟨rfl, rfl⟩
  · rw [if_neg (by omega)]
    go_enter Try.func42, Try.ntmps42
    go_wp2
    go_ret
    exact ⟨rfl, rfl⟩

theorem digit43 (c : Int) (w : World) : Calls Try.prog 43 #[.int .u8 c] w fun e w' => e = .returned (.bool (digB c)) ∧ w' = w := by
  by_cases a : 48 ≤ c
  · by_cases b : c ≤ 57
    · have e : digB c = true := decide_eq_true ⟨a, b⟩
      rw [e]
      clear e
      go_enter Try.func43, Try.ntmps43
      go_wp2
      go_ret
      exact ⟨rfl, rfl⟩
    · have e : digB c = false := decide_eq_false (by omega)
      rw [e]
      clear e
      go_enter Try.func43, Try.ntmps43
      go_wp2
      go_ret
      exact ⟨rfl, rfl⟩
  · have e : digB c = false := decide_eq_false (by omega)
    rw [e]
    clear e
    go_enter Try.func43, Try.ntmps43
    go_wp2
    go_ret
    exact ⟨rfl, rfl⟩

/-- 36: a hex digit. -/
theorem hex36 (c : Int) (w : World) (h : 0 ≤ c ∧ c ≤ 255) : Calls Try.prog 36 #[.int .u8 c] w fun e w' => e = .returned (.tuple #[.int .u16 (hexD c), .bool (hexOk c)]) ∧ w' = w := by
  obtain ⟨v, hv⟩ : ∃ v, hexD c = v := ⟨_, rfl⟩
  obtain ⟨b, hb⟩ : ∃ b, hexOk c = b := ⟨_, rfl⟩
  rw [hv, hb]
  by_cases a : 65 ≤ c ∧ c ≤ 90
  · have hl := lower42 c w h
    rw [if_pos a] at hl
    have hd := digit43 (c + 32) w
    have ed : digB (c + 32) = false := decide_eq_false (by omega)
    rw [ed] at hd
    obtain ⟨h0, h1⟩ := h
    obtain ⟨a0, a1⟩ := a
    by_cases a2 : c ≤ 70
    · have e1 : v = c - 55 := by rw [← hv]; unfold hexD; rw [if_neg (by omega), if_neg (by omega), if_pos (by omega)]
      have e2 : b = true := by rw [← hb]; exact decide_eq_true (by omega)
      subst e1 e2
      clear hv hb ed
      go_enter Try.func36, Try.ntmps36
      go_wp2_with (first | (go_at_call 42; refine hl.mono ?_; rintro e w' ⟨rfl, rfl⟩) | (go_at_call 43; refine hd.mono ?_; rintro e w' ⟨rfl, rfl⟩))
      go_ret2
      exact ⟨by go_num, rfl⟩
    · have e1 : v = 0 := by rw [← hv]; unfold hexD; rw [if_neg (by omega), if_neg (by omega), if_neg (by omega)]
      have e2 : b = false := by rw [← hb]; exact decide_eq_false (by omega)
      subst e1 e2
      clear hv hb ed
      go_enter Try.func36, Try.ntmps36
      go_wp2_with (first | (go_at_call 42; refine hl.mono ?_; rintro e w' ⟨rfl, rfl⟩) | (go_at_call 43; refine hd.mono ?_; rintro e w' ⟨rfl, rfl⟩))
      go_ret2
      exact ⟨rfl, rfl⟩
  · have hl := lower42 c w h
    rw [if_neg a] at hl
    have hd := digit43 c w
    obtain ⟨h0, h1⟩ := h
    by_cases a1 : 48 ≤ c ∧ c ≤ 57
    · have ed : digB c = true := decide_eq_true a1
      rw [ed] at hd
      have e1 : v = c - 48 := by rw [← hv]; unfold hexD; rw [if_pos a1]
      have e2 : b = true := by rw [← hb]; exact decide_eq_true (by omega)
      subst e1 e2
      clear hv hb ed a
      obtain ⟨a1, a2⟩ := a1
      go_enter Try.func36, Try.ntmps36
      go_wp2_with (first | (go_at_call 42; refine hl.mono ?_; rintro e w' ⟨rfl, rfl⟩) | (go_at_call 43; refine hd.mono ?_; rintro e w' ⟨rfl, rfl⟩))
      go_ret2
      exact ⟨rfl, rfl⟩
    · have ed : digB c = false := decide_eq_false a1
      rw [ed] at hd
      by_cases a2 : 97 ≤ c
      · by_cases a3 : c ≤ 102
        · have e1 : v = c - 87 := by rw [← hv]; unfold hexD; rw [if_neg (by omega), if_pos (by omega)]
          have e2 : b = true := by rw [← hb]; exact decide_eq_true (by omega)
          subst e1 e2
          clear hv hb ed a a1
          go_enter Try.func36, Try.ntmps36
          go_wp2_with (first | (go_at_call 42; refine hl.mono ?_; rintro e w' ⟨rfl, rfl⟩) | (go_at_call 43; refine hd.mono ?_; rintro e w' ⟨rfl, rfl⟩))
          go_ret2
          exact ⟨by go_num, rfl⟩
        · have e1 : v = 0 := by rw [← hv]; unfold hexD; rw [if_neg (by omega), if_neg (by omega), if_neg (by omega)]
          have e2 : b = false := by rw [← hb]; exact decide_eq_false (by omega)
          subst e1 e2
          clear hv hb ed a a1
          go_enter Try.func36, Try.ntmps36
          go_wp2_with (first | (go_at_call 42; refine hl.mono ?_; rintro e w' ⟨rfl, rfl⟩) | (go_at_call 43; refine hd.mono ?_; rintro e w' ⟨rfl, rfl⟩))
          go_ret2
          exact ⟨rfl, rfl⟩
      · have e1 : v = 0 := by rw [← hv]; unfold hexD; rw [if_neg (by omega), if_neg (by omega), if_neg (by omega)]
        have e2 : b = false := by rw [← hb]; exact decide_eq_false (by omega)
        subst e1 e2
        clear hv hb ed a a1
        go_enter Try.func36, Try.ntmps36
        go_wp2_with (first | (go_at_call 42; refine hl.mono ?_; rintro e w' ⟨rfl, rfl⟩) | (go_at_call 43; refine hd.mono ?_; rintro e w' ⟨rfl, rfl⟩))
        go_ret2
        exact ⟨rfl, rfl⟩

/-! ### a string as the list of its bytes -/
def bs (s : ByteArray) : List Int := s.data.toList.map (fun b => (b.toNat : Int))
theorem bs_length (s : ByteArray) : (bs s).length = s.size := by
  unfold bs
  rw [List.length_map, Array.length_toList]
  rfl
theorem bs_getD (s : ByteArray) (i : Nat) : (bs s).getD i 0 = bt s i := by
  unfold bt
  by_cases h : i < s.size
  · rw [dif_pos h]
    have h' : i < s.data.toList.length := by rw [Array.length_toList]; exact h
    unfold bs
    rw [List.getD, List.getElem?_map, List.getElem?_eq_getElem h']
    rfl
  · rw [dif_neg h, List.getD, List.getElem?_eq_none (by rw [bs_length]; omega)]
    rfl
theorem bs_drop (s : ByteArray) (n : Nat) (h : n < s.size) : (bs s).drop n = bt s n :: (bs s).drop (n + 1) := by
  rw [List.drop_eq_getElem_cons (by rw [bs_length]; exact h)]
  congr 1
  rw [← bs_getD, List.getD, List.getElem?_eq_getElem (by rw [bs_length]; exact h)]
  rfl
theorem bs_extract (s : ByteArray) (n : Nat) : bs (s.extract n s.size) = (bs s).drop n := by
  simp [bs]
  exact List.take_of_length_le (by simp)
theorem bs_empty (s : ByteArray) : bs s = [] ↔ s.size = 0 := by rw [← bs_length, List.length_eq_zero_iff]

/-! ### 44: the decimal number -/
/-- What readDecimal hands back. -/
def decR : Option (Int × Nat) → Value
  | none => .tuple #[.int .i64 0, .int .i64 0, .bool false]
  | some (v, n) => .tuple #[.int .i64 v, .int .i64 n, .bool true]

theorem dec_stop {l : List Int} {s : ByteArray} {n : Nat} {v : Int} (h : Rg.dec l = Rg.decGo ((bs s).drop n) v n) (he : n = s.size ∨ n < s.size ∧ digB (bt s n) = false) : Rg.dec l = if n = 0 then none else some (v, n) := by
  rw [h]
  rcases he with he | ⟨he, hd⟩
  · rw [List.drop_of_length_le (by rw [bs_length]; omega)]
    rfl
  · rw [bs_drop s n he]
    simp only [Rg.decGo]
    rw [if_neg (by rw [hd]; decide)]
theorem dec_step {l : List Int} {s : ByteArray} {n : Nat} {v : Int} (h : Rg.dec l = Rg.decGo ((bs s).drop n) v n) (he : n < s.size) (hd : digB (bt s n) = true) :
    Rg.dec l = if n = 1 ∧ v = 0 then none else if 255 < v * 10 + (bt s n - 48) then none else Rg.decGo ((bs s).drop (n + 1)) (v * 10 + (bt s n - 48)) (n + 1) := by
  rw [h, bs_drop s n he]
  simp only [Rg.decGo]
  rw [if_pos hd]

set_option maxHeartbeats 1000000 in
theorem dec44 (s : ByteArray) (w : World) (hs : s.size ≤ 1048576) : Calls Try.prog 44 #[.string s, .int .i64 255] w fun e w' => e = .returned (decR (Rg.dec (bs s))) ∧ w' = w := by
  obtain ⟨r, hr⟩ : ∃ r, Rg.dec (bs s) = r := ⟨_, rfl⟩
  rw [hr]
  have HR : Hid (Rg.dec (bs s) = r) := hr
  clear hr
  go_enter Try.func44, Try.ntmps44
  go_wp2
  go_loopg [4, 5] s.size (fun g vv nv wr => ∃ (n : Nat) (v : Int), n ≤ s.size ∧ g = s.size - n ∧ vv = .int .i64 v ∧ nv = .int .i64 n ∧ 0 ≤ v ∧ v ≤ 255 ∧ (n = 0 → v = 0) ∧ Hid (Rg.dec (bs s) = Rg.decGo ((bs s).drop n) v n) ∧ w = wr)
  case atStart => exact ⟨0, 0, Nat.zero_le _, rfl, rfl, rfl, by omega, by omega, fun _ => rfl, rfl, rfl⟩
  case round =>
    obtain ⟨n, v, hn, rfl, rfl, rfl, h0, h1, hz, HG, rfl⟩ := hrel
    have hrange := bt_range s n
    by_cases hlt : n < s.size
    · have i1 := run_idx s (n : Int) n rfl hlt
      have hd := digit43 (bt s n) w
      cases hdig : digB (bt s n)
      · rw [hdig] at hd
        have hstop := dec_stop HG.out (.inr ⟨hlt, hdig⟩)
        rw [HR.out] at hstop
        by_cases hn0 : n = 0
        · rw [if_pos hn0] at hstop
          have HZ : Hid (n = 0 ∧ v = 0) := ⟨hn0, hz hn0⟩
          have hnp : ¬ (0 < n) := by omega
          subst hstop
          clear hdig hz hn0
          go_wp2_with (go_at_call 43; refine hd.mono ?_; rintro e w' ⟨rfl, rfl⟩)
          go_ret3
          exact ⟨by obtain ⟨e1, e2⟩ := HZ.out; subst e1 e2; rfl, rfl⟩
        · rw [if_neg hn0] at hstop
          subst hstop
          have hpos : 0 < n := by omega
          clear hdig hz hn0
          go_wp2_with (go_at_call 43; refine hd.mono ?_; rintro e w' ⟨rfl, rfl⟩)
          go_ret3
          exact ⟨rfl, rfl⟩
      · rw [hdig] at hd
        have hstep := dec_step HG.out hlt hdig
        rw [HR.out] at hstep
        have hdg : 48 ≤ bt s n ∧ bt s n ≤ 57 := of_decide_eq_true hdig
        obtain ⟨hdg1, hdg2⟩ := hdg
        have hw : 0 ≤ v * 10 + (bt s n - 48) := by omega
        by_cases hlead : n = 1 ∧ v = 0
        · rw [if_pos hlead] at hstep
          have q1 : ((n : Int) == 1) = true := by rw [beq_iff_eq]; omega
          have q2 : (v == 0) = true := by rw [beq_iff_eq]; exact hlead.2
          subst hstep
          clear hdig hz hlead
          go_wp2_with (go_at_call 43; refine hd.mono ?_; rintro e w' ⟨rfl, rfl⟩)
          go_ret3
          exact ⟨rfl, rfl⟩
        · rw [if_neg hlead] at hstep
          by_cases hbig : 255 < v * 10 + (bt s n - 48)
          · rw [if_pos hbig] at hstep
            subst hstep
            clear hdig hz
            by_cases hn1 : n = 1
            · have q1 : ((n : Int) == 1) = true := by rw [beq_iff_eq]; omega
              have q2 : (v == 0) = false := by rw [beq_eq_false_iff_ne]; exact fun h => hlead ⟨hn1, h⟩
              clear hn1 hlead
              go_wp2_with (go_at_call 43; refine hd.mono ?_; rintro e w' ⟨rfl, rfl⟩)
              go_ret3
              exact ⟨rfl, rfl⟩
            · have q1 : ((n : Int) == 1) = false := by rw [beq_eq_false_iff_ne]; omega
              clear hn1 hlead
              go_wp2_with (go_at_call 43; refine hd.mono ?_; rintro e w' ⟨rfl, rfl⟩)
              go_ret3
              exact ⟨rfl, rfl⟩
          · rw [if_neg hbig] at hstep
            have HS : Hid (Rg.dec (bs s) = Rg.decGo ((bs s).drop (n + 1)) (v * 10 + (bt s n - 48)) (n + 1)) := by rw [HR.out]; exact hstep
            clear hstep hdig hz
            by_cases hn1 : n = 1
            · have q1 : ((n : Int) == 1) = true := by rw [beq_iff_eq]; omega
              have q2 : (v == 0) = false := by rw [beq_eq_false_iff_ne]; exact fun h => hlead ⟨hn1, h⟩
              clear hn1 hlead
              go_wp2_with (go_at_call 43; refine hd.mono ?_; rintro e w' ⟨rfl, rfl⟩)
              go_roundg (s.size - (n + 1))
              case measure => omega
              case rel => exact ⟨n + 1, v * 10 + (bt s n - 48), by omega, rfl, rfl, by go_num, by omega, by omega, fun h => absurd h (Nat.succ_ne_zero _), HS, rfl⟩
            · have q1 : ((n : Int) == 1) = false := by rw [beq_eq_false_iff_ne]; omega
              clear hn1 hlead
              go_wp2_with (go_at_call 43; refine hd.mono ?_; rintro e w' ⟨rfl, rfl⟩)
              go_roundg (s.size - (n + 1))
              case measure => omega
              case rel => exact ⟨n + 1, v * 10 + (bt s n - 48), by omega, rfl, rfl, by go_num, by omega, by omega, fun h => absurd h (Nat.succ_ne_zero _), HS, rfl⟩
    · have hstop := dec_stop HG.out (.inl (by omega : n = s.size))
      rw [HR.out] at hstop
      by_cases hn0 : n = 0
      · rw [if_pos hn0] at hstop
        have HZ : Hid (n = 0 ∧ v = 0) := ⟨hn0, hz hn0⟩
        have hnp : ¬ (0 < n) := by omega
        subst hstop
        clear hz hn0
        go_wp2
        go_ret3
        exact ⟨by obtain ⟨e1, e2⟩ := HZ.out; subst e1 e2; rfl, rfl⟩
      · rw [if_neg hn0] at hstop
        subst hstop
        have hpos : 0 < n := by omega
        clear hz hn0
        go_wp2
        go_ret3
        exact ⟨rfl, rfl⟩

end Go.Proofs.Qxb6605336a
