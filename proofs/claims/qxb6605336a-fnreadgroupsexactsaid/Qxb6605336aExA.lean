/-
  WALKS for 'FnReadGroupsExact': the model's small ones (39, 30, 27, 31, 38), the bound (8), the copy of the bytes (9).
-/
import Derived.Test.Qxb6605336aExP
import Derived.Test.Qxb6605336aRtC
namespace Go.Proofs.Qxb6605336a
open Go.RowKit Go.Deep Go.ChangeAt Go.WideShapes Go.ChangeShapes
open Rg (hexOk hexD digB hexRun hexVal)

theorem hexval39 (c : Int) (w : World) (h : 0 ≤ c ∧ c ≤ 255) : Calls Try.prog 39 #[.int .u8 c] w fun e w' => e = .returned (.tuple #[.int .u16 (hexD c), .bool (hexOk c)]) ∧ w' = w := by
  obtain ⟨v, hv⟩ : ∃ v, hexD c = v := ⟨_, rfl⟩
  obtain ⟨b, hb⟩ : ∃ b, hexOk c = b := ⟨_, rfl⟩
  rw [hv, hb]
  obtain ⟨h0, h1⟩ := h
  by_cases a1 : c < 48
  · have e1 : v = 0 := by rw [← hv]; unfold hexD; rw [if_neg (by omega), if_neg (by omega), if_neg (by omega)]
    have e2 : b = false := by rw [← hb]; exact decide_eq_false (by omega)
    subst e1 e2
    clear hv hb
    go_enter Try.func39, Try.ntmps39
    go_wp2
    go_ret2
    exact ⟨rfl, rfl⟩
  by_cases a2 : c ≤ 57
  · have e1 : v = c - 48 := by rw [← hv]; unfold hexD; rw [if_pos (by omega)]
    have e2 : b = true := by rw [← hb]; exact decide_eq_true (by omega)
    subst e1 e2
    clear hv hb
    go_enter Try.func39, Try.ntmps39
    go_wp2
    go_ret2
    exact ⟨rfl, rfl⟩
  by_cases a3 : c < 65
  · have e1 : v = 0 := by rw [← hv]; unfold hexD; rw [if_neg (by omega), if_neg (by omega), if_neg (by omega)]
    have e2 : b = false := by rw [← hb]; exact decide_eq_false (by omega)
    subst e1 e2
    clear hv hb
    go_enter Try.func39, Try.ntmps39
    go_wp2
    go_ret2
    exact ⟨rfl, rfl⟩
  by_cases a4 : c ≤ 70
  · have e1 : v = c - 55 := by rw [← hv]; unfold hexD; rw [if_neg (by omega), if_neg (by omega), if_pos (by omega)]
    have e2 : b = true := by rw [← hb]; exact decide_eq_true (by omega)
    subst e1 e2
    clear hv hb
    go_enter Try.func39, Try.ntmps39
    go_wp2
    go_ret2
    exact ⟨by go_num, rfl⟩
  by_cases a5 : c < 97
  · have e1 : v = 0 := by rw [← hv]; unfold hexD; rw [if_neg (by omega), if_neg (by omega), if_neg (by omega)]
    have e2 : b = false := by rw [← hb]; exact decide_eq_false (by omega)
    subst e1 e2
    clear hv hb
    go_enter Try.func39, Try.ntmps39
    go_wp2
    go_ret2
    exact ⟨rfl, rfl⟩
  by_cases a6 : c ≤ 102
  · have e1 : v = c - 87 := by rw [← hv]; unfold hexD; rw [if_neg (by omega), if_pos (by omega)]
    have e2 : b = true := by rw [← hb]; exact decide_eq_true (by omega)
    subst e1 e2
    clear hv hb
    go_enter Try.func39, Try.ntmps39
    go_wp2
    go_ret2
    exact ⟨by go_num, rfl⟩
  · have e1 : v = 0 := by rw [← hv]; unfold hexD; rw [if_neg (by omega), if_neg (by omega), if_neg (by omega)]
    have e2 : b = false := by rw [← hb]; exact decide_eq_false (by omega)
    subst e1 e2
    clear hv hb
    go_enter Try.func39, Try.ntmps39
    go_wp2
    go_ret2
    exact ⟨rfl, rfl⟩

/-- 30: the run of hex digits. -/
theorem run30 (p : ByteArray) (w : World) (hp : p.size ≤ 1048576) : Calls Try.prog 30 #[.string p] w fun e w' => e = .returned (.int .i64 (hexRun (bs p) 4 : Nat)) ∧ w' = w := by
  obtain ⟨R, hR⟩ : ∃ R, hexRun (bs p) 4 = R := ⟨_, rfl⟩
  rw [hR]
  have HR : Hid (hexRun (bs p) 4 = R) := hR
  clear hR
  go_enter Try.func30, Try.ntmps30
  go_wp2
  go_loopg [3] 4 (fun g hv wr => ∃ k : Nat, k ≤ 4 ∧ k ≤ p.size ∧ g = 4 - k ∧ hv = .int .i64 k ∧ Hid (∀ j, j < k → hexOk ((bs p).getD j 0) = true) ∧ w = wr)
  case atStart => exact ⟨0, by omega, by omega, rfl, rfl, fun j hj => absurd hj (Nat.not_lt_zero _), rfl⟩
  case round =>
    obtain ⟨k, hk4, hks, rfl, rfl, HA, rfl⟩ := hrel
    have hrange := bt_range p k
    by_cases hlt : k < p.size
    · by_cases h4 : k < 4
      · have i1 := run_idx p (k : Int) k rfl hlt
        have hx := hexval39 (bt p k) w hrange
        cases hok : hexOk (bt p k)
        · rw [hok] at hx
          have hrun : R = k := by rw [← HR.out]; exact Rg.hexRun_is (bs p) 4 k hk4 (by rw [bs_length]; omega) HA.out (.inr (.inr (by rw [bs_getD]; exact hok)))
          subst hrun
          clear hok
          go_wp2_with (go_at_call 39; refine hx.mono ?_; rintro e w' ⟨rfl, rfl⟩)
          go_ret
          exact ⟨rfl, rfl⟩
        · rw [hok] at hx
          have HA2 : Hid (∀ j, j < k + 1 → hexOk ((bs p).getD j 0) = true) := by
            intro j hj
            by_cases e : j = k
            · rw [e, bs_getD]; exact hok
            · exact HA.out j (by omega)
          clear hok
          go_wp2_with (go_at_call 39; refine hx.mono ?_; rintro e w' ⟨rfl, rfl⟩)
          go_roundg (4 - (k + 1))
          case measure => omega
          case rel => exact ⟨k + 1, by omega, by omega, rfl, by go_num, HA2, rfl⟩
      · have hrun : R = k := by rw [← HR.out]; exact Rg.hexRun_is (bs p) 4 k hk4 (by rw [bs_length]; omega) HA.out (.inl (by omega))
        subst hrun
        go_wp2
        go_ret
        exact ⟨rfl, rfl⟩
    · have hrun : R = k := by rw [← HR.out]; exact Rg.hexRun_is (bs p) 4 k hk4 (by rw [bs_length]; omega) HA.out (.inr (.inl (by rw [bs_length]; omega)))
      subst hrun
      go_wp2
      go_ret
      exact ⟨rfl, rfl⟩

/-- 27: is the piece a group? -/
theorem grp27 (p : ByteArray) (w : World) (hp : p.size ≤ 1048576) : Calls Try.prog 27 #[.string p] w fun e w' => e = .returned (.bool (Rg.grp (bs p))) ∧ w' = w := by
  have hr := run30 p w hp
  obtain ⟨B, hB⟩ : ∃ B, Rg.grp (bs p) = B := ⟨_, rfl⟩
  rw [hB]
  unfold Rg.grp at hB
  rw [bs_length] at hB
  have hle := Rg.hexRun_le (bs p) 4
  obtain ⟨R, hR⟩ : ∃ R, hexRun (bs p) 4 = R := ⟨_, rfl⟩
  rw [hR] at hB hr hle
  clear hR
  obtain ⟨hle1, hle2⟩ := hle
  clear hle2
  by_cases h1 : 1 ≤ p.size
  · by_cases h4 : p.size ≤ 4
    · by_cases he : R = p.size
      · have e : B = true := by rw [← hB]; exact decide_eq_true ⟨h1, h4, he⟩
        have q : ((R : Int) == (p.size : Int)) = true := by rw [beq_iff_eq]; omega
        subst e
        clear hB he
        go_enter Try.func27, Try.ntmps27
        go_wp2_with (go_at_call 30; refine hr.mono ?_; rintro e w' ⟨rfl, rfl⟩)
        go_ret
        exact ⟨rfl, rfl⟩
      · have e : B = false := by rw [← hB]; exact decide_eq_false (fun g => he g.2.2)
        have q : ((R : Int) == (p.size : Int)) = false := by rw [beq_eq_false_iff_ne]; omega
        subst e
        clear hB he
        go_enter Try.func27, Try.ntmps27
        go_wp2_with (go_at_call 30; refine hr.mono ?_; rintro e w' ⟨rfl, rfl⟩)
        go_ret
        exact ⟨rfl, rfl⟩
    · have e : B = false := by rw [← hB]; exact decide_eq_false (fun g => h4 g.2.1)
      subst e
      clear hB
      go_enter Try.func27, Try.ntmps27
      go_wp2_with (go_at_call 30; refine hr.mono ?_; rintro e w' ⟨rfl, rfl⟩)
      go_ret
      exact ⟨rfl, rfl⟩
  · have e : B = false := by rw [← hB]; exact decide_eq_false (fun g => h1 g.1)
    subst e
    clear hB
    go_enter Try.func27, Try.ntmps27
    go_wp2_with (go_at_call 30; refine hr.mono ?_; rintro e w' ⟨rfl, rfl⟩)
    go_ret
    exact ⟨rfl, rfl⟩

/-- 31: does the run end at a dot? -/
theorem dot31 (p : ByteArray) (w : World) (hp : p.size ≤ 1048576) : Calls Try.prog 31 #[.string p] w fun e w' => e = .returned (.bool (Rg.dotB (bs p))) ∧ w' = w := by
  have hr := run30 p w hp
  obtain ⟨B, hB⟩ : ∃ B, Rg.dotB (bs p) = B := ⟨_, rfl⟩
  rw [hB]
  unfold Rg.dotB at hB
  rw [bs_length, bs_getD] at hB
  obtain ⟨R, hR⟩ : ∃ R, hexRun (bs p) 4 = R := ⟨_, rfl⟩
  rw [hR] at hB hr
  clear hR
  by_cases h1 : R < p.size
  · have i1 := run_idx p (R : Int) R rfl h1
    by_cases he : bt p R = 46
    · have e : B = true := by rw [← hB]; exact decide_eq_true ⟨h1, he⟩
      have q : (bt p R == 46) = true := by rw [beq_iff_eq]; exact he
      subst e
      clear hB he
      go_enter Try.func31, Try.ntmps31
      go_wp2_with (go_at_call 30; refine hr.mono ?_; rintro e w' ⟨rfl, rfl⟩)
      go_ret
      exact ⟨rfl, rfl⟩
    · have e : B = false := by rw [← hB]; exact decide_eq_false (fun g => he g.2)
      have q : (bt p R == 46) = false := by rw [beq_eq_false_iff_ne]; exact he
      subst e
      clear hB he
      go_enter Try.func31, Try.ntmps31
      go_wp2_with (go_at_call 30; refine hr.mono ?_; rintro e w' ⟨rfl, rfl⟩)
      go_ret
      exact ⟨rfl, rfl⟩
  · have e : B = false := by rw [← hB]; exact decide_eq_false (fun g => h1 g.1)
    subst e
    clear hB
    go_enter Try.func31, Try.ntmps31
    go_wp2_with (go_at_call 30; refine hr.mono ?_; rintro e w' ⟨rfl, rfl⟩)
    go_ret
    exact ⟨rfl, rfl⟩

/-- 38: the run's value. -/
theorem val38 (p : ByteArray) (w : World) (hp : p.size ≤ 1048576) : Calls Try.prog 38 #[.string p] w fun e w' => e = .returned (.int .u16 (hexVal (bs p) (hexRun (bs p) 4))) ∧ w' = w := by
  have hr := run30 p w hp
  have hle := Rg.hexRun_le (bs p) 4
  obtain ⟨R, hR⟩ : ∃ R, hexRun (bs p) 4 = R := ⟨_, rfl⟩
  rw [hR] at hr hle ⊢
  rw [bs_length] at hle
  clear hR
  obtain ⟨hle1, hle2⟩ := hle
  go_enter Try.func38, Try.ntmps38
  go_wp2_with fail
  refine hr.mono ?_
  rintro e w1 ⟨rfl, rfl⟩
  clear hr
  go_wp2
  go_loopg [4, 5] R (fun g vv iv wr => ∃ k : Nat, k ≤ R ∧ g = R - k ∧ iv = .int .i64 k ∧ vv = .int .u16 (hexVal (bs p) k) ∧ w1 = wr)
  case atStart => exact ⟨0, Nat.zero_le _, rfl, rfl, rfl, rfl⟩
  case round =>
    obtain ⟨k, hk, rfl, rfl, rfl, rfl⟩ := hrel
    by_cases hlt : k < R
    · have hps : k < p.size := by omega
      have i1 := run_idx p (k : Int) k rfl hps
      have hx := hexval39 (bt p k) w1 (bt_range p k)
      obtain ⟨hv1, hv2⟩ := Rg.hexVal_small3 (bs p) k (by omega)
      obtain ⟨hd1, hd2⟩ := Rg.hexD_range (bt p k)
      have HV : Hid (hexVal (bs p) k * 16 + hexD (bt p k) = hexVal (bs p) (k + 1)) := by rw [Hid, hexVal, bs_getD]
      go_wp2_with (go_at_call 39; refine hx.mono ?_; rintro e w' ⟨rfl, rfl⟩)
      go_roundg (R - (k + 1))
      case measure => omega
      case rel => exact ⟨k + 1, by omega, rfl, by go_num, congrArg (Value.int .u16) HV.out, rfl⟩
    · have he : k = R := by omega
      subst he
      go_wp2
      go_ret
      exact ⟨rfl, rfl⟩

theorem bytes8 (s : ByteArray) (ad : Option Addr) (len cap : Nat) (ip : Bool) (w : World) (hs : s.size ≤ 9223372036854775807) (hl : len ≤ 9223372036854775807) :
    Calls Try.prog 8 #[.string s, .slice ad len cap, .bool ip] w fun e w' => (∃ b : Bool, e = .returned (.bool b)) ∧ w' = w := by
  go_enter Try.func8, Try.ntmps8
  go_wp2
  all_goals
    go_ret
    exact ⟨⟨_, rfl⟩, rfl⟩

/-! ### 9: the copy -/
set_option maxHeartbeats 400000 in
theorem clone9_some (b off len cap : Nat) (f : Nat → Int) (w : World) (hm : len ≤ 1048576)
    (hc : ∀ i, i < len → w.cell? ⟨b, off + i, none⟩ = some (.int .u8 (f i))) (hb : b < w.heap.size) :
    Calls Try.prog 9 #[.slice (some ⟨b, off, none⟩) len cap] w fun e w' => e = .returned (.slice (some ⟨w.heap.size, 0, none⟩) len len) ∧ w'.rowIs w.heap.size 5 len (fun i => .int .u8 (f i)) ∧ w'.heap.size = w.heap.size + 1 ∧ Below w.heap.size w w' := by
  have he := fun w => Lib.run_eql_slice_nil (P := Try.prog) w 22 5 (some ⟨b, off, none⟩) len cap 0 0 Try.underlying22
  have hmk := run_make_row' (P := Try.prog) 22 5 (.int .u8 0) 1 Try.underlying22 Try.info5 rfl .i64 .i64 len (by omega) (by omega)
  have HC : Hid (∀ i, i < len → w.cell? ⟨b, off + i, none⟩ = some (.int .u8 (f i))) := hc
  clear hc
  go_enter Try.func9, Try.ntmps9
  go_wp2
  go_loopg [4] len (fun n i wr => ∃ k : Nat, k ≤ len ∧ n = len - k ∧ i = .int .i64 k ∧ wr.rowIs w.heap.size 5 len (fun j => if j < k then .int .u8 (f j) else .int .u8 0) ∧ wr.heap.size = w.heap.size + 1 ∧ Below w.heap.size w wr)
  case atStart =>
    exact ⟨0, Nat.zero_le _, rfl, rfl, (World.rowIs_made w (.int .u8 0) len 5).congr (fun i _ => by simp), by simp, (Below.refl _ _).alloc (Nat.le_refl _) _⟩
  case round =>
    obtain ⟨k, hk, rfl, rfl, hr, hs, hbl⟩ := hrel
    have hc1 : k < len → wr.cell? ⟨b, off + k, none⟩ = some (.int .u8 (f k)) := fun h => (hbl.cell (p := ⟨b, off + k, none⟩) hb).trans (HC.out k h)
    have hc2 : k < len → wr.cell? ⟨w.heap.size, k, none⟩ = some (if k < k then .int .u8 (f k) else .int .u8 0) := fun h => hr.cell h
    have hf := hr.frozen k
    go_wp2
    · have hlt : k < len := by assumption
      go_roundg (len - (k + 1))
      case measure => omega
      case rel =>
        refine ⟨k + 1, by omega, rfl, by go_num, (hr.set k _).congr ?_, by simpa using hs, hbl.setCell (Nat.le_refl _) _⟩
        intro j _
        by_cases h1 : j = k
        · subst h1; simp
        · have h2 : (j < k + 1) = (j < k) := by simp; omega
          simp only [h1, if_false, h2]
    · go_ret
      exact ⟨rfl, hr.congr (fun i hi => by rw [if_pos (by omega)]), hs, hbl⟩

theorem clone9_nil (w : World) (cap : Nat) : Calls Try.prog 9 #[.slice none 0 cap] w fun e w' => e = .returned (.slice none 0 0) ∧ w' = w := by
  have he := fun w => Lib.run_eql_slice_nil (P := Try.prog) w 22 5 none 0 cap 0 0 Try.underlying22
  go_enter Try.func9, Try.ntmps9
  go_wp2
  go_ret
  exact ⟨rfl, rfl⟩

theorem clone9_empty (x : Addr) (w : World) (cap : Nat) : Calls Try.prog 9 #[.slice (some x) 0 cap] w fun e w' => e = .returned (.slice (some ⟨w.heap.size, 0, none⟩) 0 0) ∧ w' = w.alloc (.cells (madeCells #[.int .u8 0] 0) 5) := by
  have he := fun w => Lib.run_eql_slice_nil (P := Try.prog) w 22 5 (some x) 0 cap 0 0 Try.underlying22
  have hmk : ∀ w, (Instr.makeSlice 22 (.int .i64 0) (.int .i64 0)).run Try.prog w = .ok (.slice (some ⟨w.heap.size, 0, none⟩) 0 0) (w.alloc (.cells (madeCells #[.int .u8 0] 0) 5)) := fun w => run_make_row' (P := Try.prog) 22 5 (.int .u8 0) 1 Try.underlying22 Try.info5 rfl .i64 .i64 0 (by omega) (by omega) w
  go_enter Try.func9, Try.ntmps9
  go_wp2
  refine wp_loop_rounds 1 ?_
  rw [rounds_succ]
  go_wp2
  go_ret
  exact ⟨rfl, rfl⟩

/-- THE COPY: nil stays nil; else a new row of the same elements. -/
theorem clone9 (ad : Option Addr) (len cap : Nat) (f : Nat → Int) (w : World) (hm : len ≤ 1048576) (hE : Elems w ad len (fun i => .int .u8 (f i))) :
    Calls Try.prog 9 #[.slice ad len cap] w fun e w' => ∃ ad', e = .returned (.slice ad' len len) ∧ Elems w' ad' len (fun i => .int .u8 (f i)) ∧ (∀ x, ad' = some x → x = ⟨w.heap.size, 0, none⟩) ∧ w'.heap.size ≤ w.heap.size + 1 ∧ Below w.heap.size w w' := by
  cases ad with
  | none =>
    have h0 := hE.1 rfl
    subst h0
    refine (clone9_nil w cap).mono ?_
    rintro e w' ⟨rfl, rfl⟩
    exact ⟨none, rfl, ⟨fun _ => rfl, fun x (hx : none = some x) => by cases hx⟩, fun x (hx : none = some x) => (by cases hx), Nat.le_succ _, Below.refl _ _⟩
  | some x =>
    by_cases hl : 0 < len
    · obtain ⟨b, off, rfl, hb, hc⟩ := elems_addr (hE.2 x rfl) hl
      refine (clone9_some b off len cap f w hm hc hb).mono ?_
      rintro e w' ⟨rfl, hr, hs, hbl⟩
      refine ⟨_, rfl, ⟨(fun h => by cases h), fun x hx i hi => ?_⟩, fun x hx => by cases hx; rfl, by omega, hbl⟩
      cases hx
      rw [add_plain, Nat.zero_add]; exact hr.cell hi
    · have h0 : len = 0 := by omega
      subst h0
      refine (clone9_empty x w cap).mono ?_
      rintro e w' ⟨rfl, rfl⟩
      exact ⟨_, rfl, ⟨(fun h => by cases h), fun x hx i hi => absurd hi (Nat.not_lt_zero _)⟩, fun x hx => by cases hx; rfl, by simp, (Below.refl _ _).alloc (Nat.le_refl _) _⟩

end Go.Proofs.Qxb6605336a
