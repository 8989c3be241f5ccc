/-
  WALKS: the best match by the law's own reckoning (24, 35).
-/
import Derived.Test.Qxb6605336aGrantE
namespace Go.Proofs.Qxb6605336a
open Go.RowKit Go.Deep Go.ChangeAt Go.WideShapes Go.ChangeShapes

theorem max35 (a b : Int) (w : World) : Calls Try.prog 35 #[.int .u8 a, .int .u8 b] w fun e w' => e = .returned (.int .u8 (max a b)) ∧ w' = w := by
  by_cases h : b < a
  · have e : max a b = a := by omega
    rw [e]
    clear e
    go_enter Try.func35, Try.ntmps35
    go_wp2
    go_ret
    exact ⟨rfl, rfl⟩
  · have e : max a b = b := by omega
    rw [e]
    clear e
    go_enter Try.func35, Try.ntmps35
    go_wp2
    go_ret
    exact ⟨rfl, rfl⟩

/-- The best so far, raised to c where b. -/
def bst (B : Int) (b : Bool) (c : Int) : Int := if b = true then max B c else B

theorem hasB_zero (g : Nat → ByteArray) (v : ByteArray) : hasB g 0 v = false := rfl
theorem hasB_succ (g : Nat → ByteArray) (k : Nat) (v : ByteArray) : hasB g (k + 1) v = (hasB g k v || (v.toList == (g k).toList)) := by
  unfold hasB
  rw [List.range_succ, List.any_append]
  simp

theorem bst_none (B c : Int) (g : Nat → ByteArray) (v : ByteArray) (n : Bool) : bst B (n && hasB g 0 v) c = B := by
  rw [hasB_zero]; cases n <;> rfl
theorem bst_hit (B c : Int) (g : Nat → ByteArray) (v : ByteArray) (k : Nat) (h : ((g k).toList == v.toList) = true) : max (bst B (true && hasB g k v) c) c = bst B (true && hasB g (k + 1) v) c := by
  have h' : (v.toList == (g k).toList) = true := by rw [beq_iff_eq] at h ⊢; exact h.symm
  rw [hasB_succ, h']
  unfold bst
  cases hasB g k v <;> simp <;> omega
theorem bst_miss (B c : Int) (g : Nat → ByteArray) (v : ByteArray) (k : Nat) (h : ((g k).toList == v.toList) = false) : bst B (true && hasB g k v) c = bst B (true && hasB g (k + 1) v) c := by
  have h' : (v.toList == (g k).toList) = false := by rw [beq_eq_false_iff_ne] at h ⊢; exact fun e => h e.symm
  rw [hasB_succ, h']
  simp
theorem bst_off (B c : Int) (g : Nat → ByteArray) (v : ByteArray) (k : Nat) : bst B (false && hasB g k v) c = B := rfl

/-- What the walk comes to. -/
def bestV (b0 b1 b9 nA nS hA hS hC : Bool) : Int := bst (bst (bst (bst (bst 0 b0 2) (b1 && nS) 3) (nA && hA) (if b9 = true then 3 else 2)) (nS && hS) 3) (nA && hC) 1

theorem best_is (b0 b1 b9 nA nS hA hS hC : Bool) : bestV b0 b1 b9 nA nS hA hS hC = mV (nA && hA) b9 (nS && (b1 || hS)) b0 (nA && hC) := by
  revert b0 b1 b9 nA nS hA hS hC
  decide

set_option maxRecDepth 100000 in
set_option maxHeartbeats 2000000 in
theorem best24 (b0 b1 b9 : Bool) (ad2 ad3 ad4 : Option Addr) (len2 cap2 len3 cap3 len4 cap4 : Nat) (g2 g3 g4 : Nat → ByteArray) (s6 s7 s8 : ByteArray) (w : World)
    (hm2 : len2 ≤ 1048576) (hm3 : len3 ≤ 1048576) (hm4 : len4 ≤ 1048576) (hE2 : Elems w ad2 len2 (fun i => .string (g2 i))) (hE3 : Elems w ad3 len3 (fun i => .string (g3 i))) (hE4 : Elems w ad4 len4 (fun i => .string (g4 i))) :
    Calls Try.prog 24 #[.bool b0, .bool b1, .slice ad2 len2 cap2, .slice ad3 len3 cap3, .slice ad4 len4 cap4, .string s6, .string s7, .string s8, .bool b9] w fun e w' =>
      e = .returned (.int .u8 (bestV b0 b1 b9 (!s6.toList.isEmpty) (!s7.toList.isEmpty) (hasB g3 len3 s6) (hasB g4 len4 s7) (hasB g2 len2 s8))) ∧ w' = w := by
  obtain ⟨R, hR⟩ : ∃ R, bestV b0 b1 b9 (!s6.toList.isEmpty) (!s7.toList.isEmpty) (hasB g3 len3 s6) (hasB g4 len4 s7) (hasB g2 len2 s8) = R := ⟨_, rfl⟩
  rw [hR]
  have HR : Hid (bestV b0 b1 b9 (!s6.toList.isEmpty) (!s7.toList.isEmpty) (hasB g3 len3 s6) (hasB g4 len4 s7) (hasB g2 len2 s8) = R) := hR
  clear hR
  obtain ⟨B1, hB1⟩ : ∃ B, bst 0 b0 2 = B := ⟨_, rfl⟩
  have HB1 : Hid (bst 0 b0 2 = B1) := hB1
  clear hB1
  obtain ⟨B2, hB2⟩ : ∃ B, bst B1 (b1 && !s7.toList.isEmpty) 3 = B := ⟨_, rfl⟩
  have HB2 : Hid (bst B1 (b1 && !s7.toList.isEmpty) 3 = B2) := hB2
  clear hB2
  go_enter Try.func24, Try.ntmps24
  go_upto_if 23 with fail
  go_cut [19] (fun v wc => v = .int .u8 B1 ∧ w = wc)
  case first =>
    cases b0
    · have hv : B1 = 0 := HB1.out.symm
      subst hv
      go_wp2
      go_meet
      exact ⟨rfl, rfl⟩
    · have hv : B1 = 2 := by rw [← HB1.out]; rfl
      subst hv
      go_wp2_with (go_at_call 35; refine (max35 _ _ _).mono ?_; rintro e w' ⟨rfl, rfl⟩)
      go_meet
      exact ⟨rfl, rfl⟩
  case rest =>
    obtain ⟨rfl, rfl⟩ := hcut
    obtain ⟨bb, hbb⟩ : ∃ b, (b1 && !s7.toList.isEmpty) = b := ⟨_, rfl⟩
    have HBB : Hid ((b1 && !s7.toList.isEmpty) = bb) := hbb
    clear hbb
    go_upto_region 4 with fail
    go_cut [30] (fun v wc => v = .bool bb ∧ w = wc)
    case first =>
      cases b1
      · have hv : bb = false := HBB.out.symm
        subst hv
        go_wp2
        go_meet
        exact ⟨rfl, rfl⟩
      · cases hn : s7.toList.isEmpty
        · have hv : bb = true := by rw [← HBB.out, hn]; rfl
          subst hv
          go_wp2
          go_meet
          exact ⟨rfl, rfl⟩
        · have hv : bb = false := by rw [← HBB.out, hn]; rfl
          subst hv
          go_wp2
          go_meet
          exact ⟨rfl, rfl⟩
    case rest =>
      obtain ⟨rfl, rfl⟩ := hcut
      go_upto_if 30 with fail
      go_cut [19] (fun v wc => v = .int .u8 B2 ∧ w = wc)
      case first =>
        have h2 := HB2.out
        rw [HBB.out] at h2
        cases bb
        · have hv : B2 = B1 := h2.symm
          subst hv
          clear h2
          go_wp2
          go_meet
          exact ⟨rfl, rfl⟩
        · have HV : Hid (max B1 3 = B2) := h2
          clear h2
          go_wp2_with (go_at_call 35; refine (max35 _ _ _).mono ?_; rintro e w' ⟨rfl, rfl⟩)
          go_meet
          exact ⟨congrArg (Value.int .u8) HV.out, rfl⟩
      case rest =>
        obtain ⟨rfl, rfl⟩ := hcut
        obtain ⟨cU, hcU⟩ : ∃ c : Int, (if b9 = true then 3 else 2) = c := ⟨_, rfl⟩
        have HCU : Hid ((if b9 = true then 3 else 2) = cU) := hcU
        clear hcU
        go_wp2
        go_loopg [19, 20] len3 (fun n bv iv wr => ∃ k : Nat, k ≤ len3 ∧ n = len3 - k ∧ iv = .int .i64 k ∧ bv = .int .u8 (bst B2 ((!s6.toList.isEmpty) && hasB g3 k s6) cU) ∧ w = wr)
        case atStart => exact ⟨0, Nat.zero_le _, rfl, rfl, by rw [bst_none], rfl⟩
        case round =>
          obtain ⟨k, hk, rfl, rfl, rfl, rfl⟩ := hrel
          by_cases hlt : k < len3
          · obtain ⟨a, i1, i2⟩ := elem_at cap3 hE3 hlt
            cases hn : s6.toList.isEmpty
            · by_cases heq : ((g3 k).toList == s6.toList) = true
              · have hstep := bst_hit B2 cU g3 s6 k heq
                have HS2 : Hid (max (bst B2 (true && hasB g3 k s6) cU) cU = bst B2 (true && hasB g3 (k + 1) s6) cU) := hstep
                clear hstep
                cases b9
                · have hcu : cU = 2 := HCU.out.symm
                  subst hcu
                  go_wp2_with (go_at_call 35; refine (max35 _ _ _).mono ?_; rintro e w' ⟨rfl, rfl⟩)
                  go_roundg (len3 - (k + 1))
                  case measure => omega
                  case rel => exact ⟨k + 1, by omega, rfl, by go_num, congrArg (Value.int .u8) (by rw [hn]; exact HS2.out), rfl⟩
                · have hcu : cU = 3 := HCU.out.symm
                  subst hcu
                  go_wp2_with (go_at_call 35; refine (max35 _ _ _).mono ?_; rintro e w' ⟨rfl, rfl⟩)
                  go_roundg (len3 - (k + 1))
                  case measure => omega
                  case rel => exact ⟨k + 1, by omega, rfl, by go_num, congrArg (Value.int .u8) (by rw [hn]; exact HS2.out), rfl⟩
              · have hne : ((g3 k).toList == s6.toList) = false := by simpa using heq
                have hstep := bst_miss B2 cU g3 s6 k hne
                have HS2 : Hid (bst B2 (true && hasB g3 k s6) cU = bst B2 (true && hasB g3 (k + 1) s6) cU) := hstep
                clear hstep heq
                go_wp2
                go_roundg (len3 - (k + 1))
                case measure => omega
                case rel => exact ⟨k + 1, by omega, rfl, by go_num, congrArg (Value.int .u8) (by rw [hn]; exact HS2.out), rfl⟩
            · go_wp2
              go_roundg (len3 - (k + 1))
              case measure => omega
              case rel => exact ⟨k + 1, by omega, rfl, by go_num, congrArg (Value.int .u8) (by rw [hn]; rfl), rfl⟩
          · have hkl : k = len3 := by omega
            subst hkl
            clear hk hlt
            obtain ⟨B3, hB3⟩ : ∃ B, bst B2 (!s6.toList.isEmpty && hasB g3 k s6) cU = B := ⟨_, rfl⟩
            rw [hB3]
            have HB3 : Hid (bst B2 (!s6.toList.isEmpty && hasB g3 k s6) cU = B3) := hB3
            clear hB3
            go_wp2
            go_loopg [19, 21] len4 (fun n bv iv wr => ∃ k : Nat, k ≤ len4 ∧ n = len4 - k ∧ iv = .int .i64 k ∧ bv = .int .u8 (bst B3 ((!s7.toList.isEmpty) && hasB g4 k s7) 3) ∧ w = wr)
            case atStart => exact ⟨0, Nat.zero_le _, rfl, rfl, by rw [bst_none], rfl⟩
            case round =>
              obtain ⟨k, hk, rfl, rfl, rfl, rfl⟩ := hrel
              by_cases hlt : k < len4
              · obtain ⟨a, i1, i2⟩ := elem_at cap4 hE4 hlt
                cases hn : s7.toList.isEmpty
                · by_cases heq : ((g4 k).toList == s7.toList) = true
                  · have hstep := bst_hit B3 3 g4 s7 k heq
                    have HS2 : Hid (max (bst B3 (true && hasB g4 k s7) 3) 3 = bst B3 (true && hasB g4 (k + 1) s7) 3) := hstep
                    clear hstep
                    go_wp2_with (go_at_call 35; refine (max35 _ _ _).mono ?_; rintro e w' ⟨rfl, rfl⟩)
                    go_roundg (len4 - (k + 1))
                    case measure => omega
                    case rel => exact ⟨k + 1, by omega, rfl, by go_num, congrArg (Value.int .u8) (by rw [hn]; exact HS2.out), rfl⟩
                  · have hne : ((g4 k).toList == s7.toList) = false := by simpa using heq
                    have hstep := bst_miss B3 3 g4 s7 k hne
                    have HS2 : Hid (bst B3 (true && hasB g4 k s7) 3 = bst B3 (true && hasB g4 (k + 1) s7) 3) := hstep
                    clear hstep heq
                    go_wp2
                    go_roundg (len4 - (k + 1))
                    case measure => omega
                    case rel => exact ⟨k + 1, by omega, rfl, by go_num, congrArg (Value.int .u8) (by rw [hn]; exact HS2.out), rfl⟩
                · go_wp2
                  go_roundg (len4 - (k + 1))
                  case measure => omega
                  case rel => exact ⟨k + 1, by omega, rfl, by go_num, congrArg (Value.int .u8) (by rw [hn]; rfl), rfl⟩
              · have hkl : k = len4 := by omega
                subst hkl
                clear hk hlt
                obtain ⟨B4, hB4⟩ : ∃ B, bst B3 (!s7.toList.isEmpty && hasB g4 k s7) 3 = B := ⟨_, rfl⟩
                rw [hB4]
                have HB4 : Hid (bst B3 (!s7.toList.isEmpty && hasB g4 k s7) 3 = B4) := hB4
                clear hB4
                go_wp2
                go_loopg [19, 22] len2 (fun n bv iv wr => ∃ k : Nat, k ≤ len2 ∧ n = len2 - k ∧ iv = .int .i64 k ∧ bv = .int .u8 (bst B4 ((!s6.toList.isEmpty) && hasB g2 k s8) 1) ∧ w = wr)
                case atStart => exact ⟨0, Nat.zero_le _, rfl, rfl, by rw [bst_none], rfl⟩
                case round =>
                  obtain ⟨k, hk, rfl, rfl, rfl, rfl⟩ := hrel
                  by_cases hlt : k < len2
                  · obtain ⟨a, i1, i2⟩ := elem_at cap2 hE2 hlt
                    cases hn : s6.toList.isEmpty
                    · by_cases heq : ((g2 k).toList == s8.toList) = true
                      · have hstep := bst_hit B4 1 g2 s8 k heq
                        have HS2 : Hid (max (bst B4 (true && hasB g2 k s8) 1) 1 = bst B4 (true && hasB g2 (k + 1) s8) 1) := hstep
                        clear hstep
                        go_wp2_with (go_at_call 35; refine (max35 _ _ _).mono ?_; rintro e w' ⟨rfl, rfl⟩)
                        go_roundg (len2 - (k + 1))
                        case measure => omega
                        case rel => exact ⟨k + 1, by omega, rfl, by go_num, congrArg (Value.int .u8) (by rw [hn]; exact HS2.out), rfl⟩
                      · have hne : ((g2 k).toList == s8.toList) = false := by simpa using heq
                        have hstep := bst_miss B4 1 g2 s8 k hne
                        have HS2 : Hid (bst B4 (true && hasB g2 k s8) 1 = bst B4 (true && hasB g2 (k + 1) s8) 1) := hstep
                        clear hstep heq
                        go_wp2
                        go_roundg (len2 - (k + 1))
                        case measure => omega
                        case rel => exact ⟨k + 1, by omega, rfl, by go_num, congrArg (Value.int .u8) (by rw [hn]; exact HS2.out), rfl⟩
                    · go_wp2
                      go_roundg (len2 - (k + 1))
                      case measure => omega
                      case rel => exact ⟨k + 1, by omega, rfl, by go_num, congrArg (Value.int .u8) (by rw [hn]; rfl), rfl⟩
                  · have hkl : k = len2 := by omega
                    subst hkl
                    clear hk hlt
                    obtain ⟨B5, hB5⟩ : ∃ B, bst B4 (!s6.toList.isEmpty && hasB g2 k s8) 1 = B := ⟨_, rfl⟩
                    rw [hB5]
                    have hRB : R = B5 := by
                      rw [← HR.out, ← hB5]
                      unfold bestV
                      rw [HB1.out, HB2.out, HCU.out, HB3.out, HB4.out]
                    clear hB5
                    subst hRB
                    go_wp2
                    go_ret
                    exact ⟨rfl, rfl⟩
end Go.Proofs.Qxb6605336a
