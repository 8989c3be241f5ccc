/-
  WALKS for the two laws on 'grantTo': the bounds laid by program (20, 25).
-/
import Derived.Test.Qxb6605336aGrantA
namespace Go.Proofs.Qxb6605336a
open Go.RowKit Go.Deep Go.ChangeAt Go.WideShapes Go.ChangeShapes

def BoolIs (e : Ending) : Prop := ∃ b : Bool, e = .returned (.bool b)
theorem BoolIs.mk {e : Ending} (b : Bool) (h : e = .returned (.bool b)) : BoolIs e := ⟨b, h⟩

/-- Element k of a slice of strings: its address, and what lies there. -/
theorem elem_at {w : World} {ad : Option Addr} {len : Nat} {f : Nat → Value} (cap : Nat) (hE : Elems w ad len f) {k : Nat} (hk : k < len) :
    ∃ a : Addr, (∀ w', (Instr.indexAt 44 (.slice ad len cap) (.int .i64 (k : Int))).run Try.prog w' = .ok (.pointer (some a)) w') ∧ w.cell? a = some (f k) := by
  cases ad with
  | none => have := hE.1 rfl; omega
  | some x =>
    refine ⟨x.add k, fun w' => ?_, hE.2 x rfl k hk⟩
    have hs : (sizeOf (Try.prog.elem 44)).run Try.prog w' = .ok 1 w' := by kernel_rfl
    rw [run_indexAt_slice w' 44 x len cap .i64 (k : Int) (by kernel_rfl), if_pos (by omega), hs]
    simp

set_option maxRecDepth 100000 in
set_option maxHeartbeats 1000000 in
theorem bytes25 (b0 b1 b9 : Bool) (ad2 ad3 ad4 : Option Addr) (len2 cap2 len3 cap3 len4 cap4 : Nat) (g2 g3 g4 : Nat → ByteArray) (n5 : Int) (s6 s7 s8 : ByteArray) (w : World)
    (hm2 : len2 ≤ 9223372036854775807) (hm3 : len3 ≤ 9223372036854775807) (hm4 : len4 ≤ 9223372036854775807) (hE2 : Elems w ad2 len2 (fun i => .string (g2 i))) (hE3 : Elems w ad3 len3 (fun i => .string (g3 i))) (hE4 : Elems w ad4 len4 (fun i => .string (g4 i)))
    (hg2 : ∀ i, i < len2 → (g2 i).size ≤ 9223372036854775807) (hg3 : ∀ i, i < len3 → (g3 i).size ≤ 9223372036854775807) (hg4 : ∀ i, i < len4 → (g4 i).size ≤ 9223372036854775807) (hs6 : s6.size ≤ 9223372036854775807) (hs7 : s7.size ≤ 9223372036854775807) (hs8 : s8.size ≤ 9223372036854775807) :
    Calls Try.prog 25 #[.bool b0, .bool b1, .slice ad2 len2 cap2, .slice ad3 len3 cap3, .slice ad4 len4 cap4, .int .u8 n5, .string s6, .string s7, .string s8, .bool b9] w fun e w' => BoolIs e ∧ w' = w := by
  by_cases q2 : 1048576 < len2
  · go_enter Try.func25, Try.ntmps25
    go_wp2
    go_ret
    exact ⟨⟨_, rfl⟩, rfl⟩
  go_enter Try.func25, Try.ntmps25
  go_wp2
  go_loopg [21, 22] len2 (fun n zv iv wr => ∃ (k : Nat) (z : Int), k ≤ len2 ∧ n = len2 - k ∧ iv = .int .i64 k ∧ zv = .int .i64 z ∧ 0 ≤ z ∧ z ≤ 1048576 ∧ w = wr)
  case atStart => exact ⟨0, _, Nat.zero_le _, rfl, rfl, rfl, by omega, by omega, rfl⟩
  case round =>
    obtain ⟨k, z, hk, rfl, rfl, rfl, h1, h2, rfl⟩ := hrel
    by_cases hlt : k < len2
    · obtain ⟨a, i1, i2⟩ := elem_at cap2 hE2 hlt
      have i3 := hg2 k hlt
      by_cases hbig : 1048576 < (g2 k).size
      · go_wp2
        go_ret
        exact ⟨⟨_, rfl⟩, rfl⟩
      · by_cases hsum : 1048576 < z + ((g2 k).size : Int)
        · go_wp2
          go_ret
          exact ⟨⟨_, rfl⟩, rfl⟩
        · go_wp2
          go_roundg (len2 - (k + 1))
          case measure => omega
          case rel => exact ⟨k + 1, z + ((g2 k).size : Int), by omega, rfl, by go_num, rfl, by omega, by omega, rfl⟩
    · clear hk
      by_cases q3 : 1048576 < len3
      · go_wp2
        go_ret
        exact ⟨⟨_, rfl⟩, rfl⟩
      by_cases r3 : 1048576 < z + (len3 : Int)
      · go_wp2
        go_ret
        exact ⟨⟨_, rfl⟩, rfl⟩
      have z3 : 0 ≤ z + (len3 : Int) := by omega
      go_wp2
      go_loopg [21, 23] len3 (fun n zv iv wr => ∃ (k : Nat) (z : Int), k ≤ len3 ∧ n = len3 - k ∧ iv = .int .i64 k ∧ zv = .int .i64 z ∧ 0 ≤ z ∧ z ≤ 1048576 ∧ w = wr)
      case atStart => exact ⟨0, _, Nat.zero_le _, rfl, rfl, rfl, by omega, by omega, rfl⟩
      case round =>
        obtain ⟨k, z, hk, rfl, rfl, rfl, h1, h2, rfl⟩ := hrel
        by_cases hlt : k < len3
        · obtain ⟨a, i1, i2⟩ := elem_at cap3 hE3 hlt
          have i3 := hg3 k hlt
          by_cases hbig : 1048576 < (g3 k).size
          · go_wp2
            go_ret
            exact ⟨⟨_, rfl⟩, rfl⟩
          · by_cases hsum : 1048576 < z + ((g3 k).size : Int)
            · go_wp2
              go_ret
              exact ⟨⟨_, rfl⟩, rfl⟩
            · go_wp2
              go_roundg (len3 - (k + 1))
              case measure => omega
              case rel => exact ⟨k + 1, z + ((g3 k).size : Int), by omega, rfl, by go_num, rfl, by omega, by omega, rfl⟩
        · clear hk
          by_cases q4 : 1048576 < len4
          · go_wp2
            go_ret
            exact ⟨⟨_, rfl⟩, rfl⟩
          by_cases r4 : 1048576 < z + (len4 : Int)
          · go_wp2
            go_ret
            exact ⟨⟨_, rfl⟩, rfl⟩
          have z4 : 0 ≤ z + (len4 : Int) := by omega
          go_wp2
          go_loopg [21, 24] len4 (fun n zv iv wr => ∃ (k : Nat) (z : Int), k ≤ len4 ∧ n = len4 - k ∧ iv = .int .i64 k ∧ zv = .int .i64 z ∧ 0 ≤ z ∧ z ≤ 1048576 ∧ w = wr)
          case atStart => exact ⟨0, _, Nat.zero_le _, rfl, rfl, rfl, by omega, by omega, rfl⟩
          case round =>
            obtain ⟨k, z, hk, rfl, rfl, rfl, h1, h2, rfl⟩ := hrel
            by_cases hlt : k < len4
            · obtain ⟨a, i1, i2⟩ := elem_at cap4 hE4 hlt
              have i3 := hg4 k hlt
              by_cases hbig : 1048576 < (g4 k).size
              · go_wp2
                go_ret
                exact ⟨⟨_, rfl⟩, rfl⟩
              · by_cases hsum : 1048576 < z + ((g4 k).size : Int)
                · go_wp2
                  go_ret
                  exact ⟨⟨_, rfl⟩, rfl⟩
                · go_wp2
                  go_roundg (len4 - (k + 1))
                  case measure => omega
                  case rel => exact ⟨k + 1, z + ((g4 k).size : Int), by omega, rfl, by go_num, rfl, by omega, by omega, rfl⟩
            · clear hk
              go_wp2
              all_goals
                go_ret
                exact ⟨⟨_, rfl⟩, rfl⟩

set_option maxRecDepth 100000 in
set_option maxHeartbeats 1000000 in
theorem bytes20 (b0 b1 b9 : Bool) (ad2 ad3 ad4 : Option Addr) (len2 cap2 len3 cap3 len4 cap4 : Nat) (g2 g3 g4 : Nat → ByteArray) (n5 : Int) (s6 s7 s8 : ByteArray) (w : World)
    (hm2 : len2 ≤ 9223372036854775807) (hm3 : len3 ≤ 9223372036854775807) (hm4 : len4 ≤ 9223372036854775807) (hE2 : Elems w ad2 len2 (fun i => .string (g2 i))) (hE3 : Elems w ad3 len3 (fun i => .string (g3 i))) (hE4 : Elems w ad4 len4 (fun i => .string (g4 i)))
    (hg2 : ∀ i, i < len2 → (g2 i).size ≤ 9223372036854775807) (hg3 : ∀ i, i < len3 → (g3 i).size ≤ 9223372036854775807) (hg4 : ∀ i, i < len4 → (g4 i).size ≤ 9223372036854775807) (hs6 : s6.size ≤ 9223372036854775807) (hs7 : s7.size ≤ 9223372036854775807) (hs8 : s8.size ≤ 9223372036854775807) :
    Calls Try.prog 20 #[.bool b0, .bool b1, .slice ad2 len2 cap2, .slice ad3 len3 cap3, .slice ad4 len4 cap4, .int .u8 n5, .string s6, .string s7, .string s8, .bool b9] w fun e w' => BoolIs e ∧ w' = w := by
  by_cases q2 : 1048576 < len2
  · go_enter Try.func20, Try.ntmps20
    go_wp2
    go_ret
    exact ⟨⟨_, rfl⟩, rfl⟩
  go_enter Try.func20, Try.ntmps20
  go_wp2
  go_loopg [21, 22] len2 (fun n zv iv wr => ∃ (k : Nat) (z : Int), k ≤ len2 ∧ n = len2 - k ∧ iv = .int .i64 k ∧ zv = .int .i64 z ∧ 0 ≤ z ∧ z ≤ 1048576 ∧ w = wr)
  case atStart => exact ⟨0, _, Nat.zero_le _, rfl, rfl, rfl, by omega, by omega, rfl⟩
  case round =>
    obtain ⟨k, z, hk, rfl, rfl, rfl, h1, h2, rfl⟩ := hrel
    by_cases hlt : k < len2
    · obtain ⟨a, i1, i2⟩ := elem_at cap2 hE2 hlt
      have i3 := hg2 k hlt
      by_cases hbig : 1048576 < (g2 k).size
      · go_wp2
        go_ret
        exact ⟨⟨_, rfl⟩, rfl⟩
      · by_cases hsum : 1048576 < z + ((g2 k).size : Int)
        · go_wp2
          go_ret
          exact ⟨⟨_, rfl⟩, rfl⟩
        · go_wp2
          go_roundg (len2 - (k + 1))
          case measure => omega
          case rel => exact ⟨k + 1, z + ((g2 k).size : Int), by omega, rfl, by go_num, rfl, by omega, by omega, rfl⟩
    · clear hk
      by_cases q3 : 1048576 < len3
      · go_wp2
        go_ret
        exact ⟨⟨_, rfl⟩, rfl⟩
      by_cases r3 : 1048576 < z + (len3 : Int)
      · go_wp2
        go_ret
        exact ⟨⟨_, rfl⟩, rfl⟩
      have z3 : 0 ≤ z + (len3 : Int) := by omega
      go_wp2
      go_loopg [21, 23] len3 (fun n zv iv wr => ∃ (k : Nat) (z : Int), k ≤ len3 ∧ n = len3 - k ∧ iv = .int .i64 k ∧ zv = .int .i64 z ∧ 0 ≤ z ∧ z ≤ 1048576 ∧ w = wr)
      case atStart => exact ⟨0, _, Nat.zero_le _, rfl, rfl, rfl, by omega, by omega, rfl⟩
      case round =>
        obtain ⟨k, z, hk, rfl, rfl, rfl, h1, h2, rfl⟩ := hrel
        by_cases hlt : k < len3
        · obtain ⟨a, i1, i2⟩ := elem_at cap3 hE3 hlt
          have i3 := hg3 k hlt
          by_cases hbig : 1048576 < (g3 k).size
          · go_wp2
            go_ret
            exact ⟨⟨_, rfl⟩, rfl⟩
          · by_cases hsum : 1048576 < z + ((g3 k).size : Int)
            · go_wp2
              go_ret
              exact ⟨⟨_, rfl⟩, rfl⟩
            · go_wp2
              go_roundg (len3 - (k + 1))
              case measure => omega
              case rel => exact ⟨k + 1, z + ((g3 k).size : Int), by omega, rfl, by go_num, rfl, by omega, by omega, rfl⟩
        · clear hk
          by_cases q4 : 1048576 < len4
          · go_wp2
            go_ret
            exact ⟨⟨_, rfl⟩, rfl⟩
          by_cases r4 : 1048576 < z + (len4 : Int)
          · go_wp2
            go_ret
            exact ⟨⟨_, rfl⟩, rfl⟩
          have z4 : 0 ≤ z + (len4 : Int) := by omega
          go_wp2
          go_loopg [21, 24] len4 (fun n zv iv wr => ∃ (k : Nat) (z : Int), k ≤ len4 ∧ n = len4 - k ∧ iv = .int .i64 k ∧ zv = .int .i64 z ∧ 0 ≤ z ∧ z ≤ 1048576 ∧ w = wr)
          case atStart => exact ⟨0, _, Nat.zero_le _, rfl, rfl, rfl, by omega, by omega, rfl⟩
          case round =>
            obtain ⟨k, z, hk, rfl, rfl, rfl, h1, h2, rfl⟩ := hrel
            by_cases hlt : k < len4
            · obtain ⟨a, i1, i2⟩ := elem_at cap4 hE4 hlt
              have i3 := hg4 k hlt
              by_cases hbig : 1048576 < (g4 k).size
              · go_wp2
                go_ret
                exact ⟨⟨_, rfl⟩, rfl⟩
              · by_cases hsum : 1048576 < z + ((g4 k).size : Int)
                · go_wp2
                  go_ret
                  exact ⟨⟨_, rfl⟩, rfl⟩
                · go_wp2
                  go_roundg (len4 - (k + 1))
                  case measure => omega
                  case rel => exact ⟨k + 1, z + ((g4 k).size : Int), by omega, rfl, by go_num, rfl, by omega, by omega, rfl⟩
            · clear hk
              go_wp2
              all_goals
                go_ret
                exact ⟨⟨_, rfl⟩, rfl⟩

end Go.Proofs.Qxb6605336a
