/-
  WALK for 'FnSearchAtScript': the plain test (19): does the span stand in s at x?
-/
import Derived.Test.Qxb6605336aSearchA
namespace Go.Proofs.Qxb6605336a
open Go.RowKit Go.Deep Go.ChangeAt Go.WideShapes Go.ChangeShapes

/-- The ending: a bool, true just where Q holds. (A name that the walk does not open.) -/
def AnsIs (e : Ending) (Q : Prop) : Prop := ∃ b : Bool, e = .returned (.bool b) ∧ (b = true ↔ Q)
theorem AnsIs.yes {e : Ending} {Q : Prop} (h : e = .returned (.bool true)) (hq : Q) : AnsIs e Q := ⟨true, h, ⟨fun _ => hq, fun _ => rfl⟩⟩
theorem AnsIs.no {e : Ending} {Q : Prop} (h : e = .returned (.bool false)) (hq : ¬ Q) : AnsIs e Q := ⟨false, h, ⟨fun g => absurd g (by decide), fun g => absurd g hq⟩⟩

theorem bt_range (s : ByteArray) (i : Nat) : 0 ≤ bt s i ∧ bt s i ≤ 255 := by
  unfold bt
  split
  · rename_i h
    have := s[i].toNat_lt
    omega
  · omega

/-- s[i] inside the string. -/
theorem run_idx (s : ByteArray) (i : Int) (n : Nat) (hi : i = (n : Int)) (hn : n < s.size) (w : World) :
    (Instr.index 9 (.string s) (.int .i64 i)).run Try.prog w = .ok (.int .u8 (bt s n)) w := by
  subst hi
  rw [run_index_string w 9 s .i64 (n : Int) Try.underlying9, dif_pos (by omega)]
  rw [bt_eq hn]
  rfl

set_option maxHeartbeats 400000 in
theorem occ19_loop (p s : ByteArray) (X : Nat) (w : World) (hp : p.size ≤ 1048576) (hs : s.size ≤ 1048576) (h0 : 0 < p.size) (hX : X + p.size ≤ s.size) :
    Calls Try.prog 19 #[.string p, .string s, .int .i64 X] w fun e w' => AnsIs e (∀ i, i < p.size → bt s (X + i) = bt p i) ∧ ∃ n, w' = w.drewN n := by
  have e1 : ¬ ((X : Int) < 0) := by omega
  have e2 : ((p.size : Int) == 0) = false := by rw [beq_eq_false_iff_ne]; omega
  have e3 : ¬ ((s.size : Int) - (p.size : Int) < (X : Int)) := by omega
  go_enter Try.func19, Try.ntmps19
  go_wp2
  go_loopg [7] p.size (fun n i wr => ∃ k : Nat, k ≤ p.size ∧ n = p.size - k ∧ i = .int .i64 k ∧ (∀ j, j < k → bt s (X + j) = bt p j) ∧ ∃ nd, wr = w.drewN nd)
  case atStart => exact ⟨0, Nat.zero_le _, rfl, rfl, fun j hj => absurd hj (Nat.not_lt_zero _), 0, rfl⟩
  case round =>
    obtain ⟨k, hk, rfl, rfl, hall, nd, rfl⟩ := hrel
    have HA : Hid (∀ j, j < k → bt s (X + j) = bt p j) := hall
    clear hall
    by_cases hlt : k < p.size
    · have hlt2 : X + k < s.size := by omega
      have b1 : ((k : Int)) < (p.size : Int) := by omega
      have hw : IntKind.i64.wrap ((X : Int) + (k : Int)) = (X : Int) + (k : Int) := IntWalk.i64_in _ (by omega)
      have i1 := run_idx s ((X : Int) + (k : Int)) (X + k) (by omega) hlt2
      have i2 := run_idx p (k : Int) k rfl hlt
      go_wp2
      go_quiet (fail)
      go_wp2
      · have hne : (bt s (X + k) != bt p k) = true := by assumption
        go_ret
        rw [bne_iff_ne] at hne
        exact ⟨AnsIs.no rfl (fun h => absurd (h k hlt) hne), _, World.drewN_drewN _ _ _⟩
      · have heq : (bt s (X + k) != bt p k) = false := by assumption
        go_roundg (p.size - (k + 1))
        case measure => omega
        case rel =>
          refine ⟨k + 1, by omega, rfl, by go_num, fun j hj => ?_, _, rfl⟩
          by_cases hjk : j = k
          · subst hjk; simpa using heq
          · exact HA.out j (by omega)
    · go_wp2
      go_ret
      exact ⟨AnsIs.yes rfl (fun i hi => HA.out i (by omega)), _, rfl⟩

/-- The span p stands in s at x. -/
def OccAt (p s : ByteArray) (x : Int) : Prop := 0 ≤ x ∧ Kmp.Occ (bt p) (bt s) p.size s.size x.toNat

/-- 19: the span stands in s at x: x is not negative, and the span is empty or its bytes stand there. -/
theorem occ19 (p s : ByteArray) (x : Int) (w : World) (hp : p.size ≤ 1048576) (hs : s.size ≤ 1048576) (hx : -9223372036854775808 ≤ x ∧ x ≤ 9223372036854775807) :
    Calls Try.prog 19 #[.string p, .string s, .int .i64 x] w fun e w' => AnsIs e (OccAt p s x) ∧ ∃ n, w' = w.drewN n := by
  by_cases hx0 : x < 0
  · go_enter Try.func19, Try.ntmps19
    go_wp2
    go_ret
    exact ⟨AnsIs.no rfl (fun h => by have := h.1; omega), 0, rfl⟩
  · obtain ⟨X, rfl⟩ := Int.eq_ofNat_of_zero_le (by omega : 0 ≤ x)
    by_cases h0 : p.size = 0
    · have e2 : ((p.size : Int) == 0) = true := by rw [beq_iff_eq]; omega
      have H0 : Hid (p.size = 0) := h0
      clear h0
      go_enter Try.func19, Try.ntmps19
      go_wp2
      go_ret
      exact ⟨AnsIs.yes rfl ⟨by omega, .inl H0.out⟩, 0, rfl⟩
    · by_cases h1 : X + p.size ≤ s.size
      · refine (occ19_loop p s X w hp hs (by omega) h1).mono ?_
        rintro e w' ⟨⟨b, rfl, hb⟩, hw⟩
        refine ⟨⟨b, rfl, ?_⟩, hw⟩
        rw [hb]
        constructor
        · intro h
          exact ⟨by omega, .inr ⟨h1, h⟩⟩
        · rintro ⟨_, h | ⟨_, h⟩⟩
          · exact absurd h h0
          · exact h
      · have e2 : ((p.size : Int) == 0) = false := by rw [beq_eq_false_iff_ne]; omega
        have e3 : (s.size : Int) - (p.size : Int) < (X : Int) := by omega
        go_enter Try.func19, Try.ntmps19
        go_wp2
        go_ret
        refine ⟨AnsIs.no rfl ?_, 0, rfl⟩
        rintro ⟨_, h | ⟨h, _⟩⟩
        · omega
        · simp only [Int.toNat_natCast] at h; omega

end Go.Proofs.Qxb6605336a
