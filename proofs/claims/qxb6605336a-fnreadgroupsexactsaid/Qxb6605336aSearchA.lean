/-
  WALKS for 'FnSearchAtScript': the bound (16), the copy of the numbers (17), the plain test (19).
-/
import Derived.Test.Qxb6605336aProg
import Derived.Test.Qxb6605336aKmp
import Derived.WalkKit
import Derived.WalkSpells
import Derived.WalkLawsBesides
import Derived.Deep.OwnRows
import Derived.Deep.QuietTactic
import Derived.BigQuiet
import Derived.Deep.LoopGhost
import Derived.Outline
import Derived.ProofKit
import Derived.Lib.SliceRun
namespace Go.Proofs.Qxb6605336a
open Go.RowKit Go.Deep Go.ChangeAt Go.WideShapes Go.ChangeShapes

/-- Byte i of a string, as a number. -/
def bt (s : ByteArray) (i : Nat) : Int := if h : i < s.size then (s[i].toNat : Int) else 0
theorem bt_eq {s : ByteArray} {i : Nat} (h : i < s.size) : bt s i = (s[i].toNat : Int) := dif_pos h

/-! ### 16: the bound: it answers a bool and leaves the world -/
set_option maxHeartbeats 400000 in
theorem bytes16 (a0 a1 : ByteArray) (a2 : Option Addr) (len cap : Nat) (w : World) (w0 : a0.size ≤ maxLen) (w1 : a1.size ≤ maxLen) (w2 : len ≤ maxLen) :
    Calls Try.prog 16 #[.string a0, .string a1, .slice a2 len cap] w fun e w' => (∃ b : Bool, e = .returned (.bool b)) ∧ w' = w := by
  unfold maxLen at w0 w1 w2
  go_enter Try.func16, Try.ntmps16
  go_wp2
  all_goals
    go_ret
    exact ⟨⟨_, rfl⟩, rfl⟩

theorem Try.info3 : (Try.prog.info? 3).map (fun i => (i.zero, i.size, i.bytes)) = some (some (.int .i64 0), 1, 8) := by kernel_rfl

theorem lt_of_cell {w : World} {a : Addr} {v : Value} (h : w.cell? a = some v) : a.block < w.heap.size := by
  unfold World.cell? at h
  by_cases hb : a.block < w.heap.size
  · exact hb
  · rw [Array.getElem?_eq_none (by omega)] at h
    simp at h

/-! ### 17: the copy of the numbers -/
/-- What a slice's elements hold: nil and empty, or an address from which on they lie. -/
def Elems (w : World) (ad : Option Addr) (len : Nat) (f : Nat → Value) : Prop :=
  (ad = none → len = 0) ∧ ∀ x, ad = some x → ∀ i, i < len → w.cell? (x.add i) = some (f i)

set_option maxHeartbeats 400000 in
theorem clone17_some (b off len cap : Nat) (f : Nat → Int) (w : World) (hm : len ≤ 1048576)
    (hc : ∀ i, i < len → w.cell? ⟨b, off + i, none⟩ = some (.int .i64 (f i))) (hb : b < w.heap.size) :
    Calls Try.prog 17 #[.slice (some ⟨b, off, none⟩) len cap] w fun e w' => e = .returned (.slice (some ⟨w.heap.size, 0, none⟩) len len) ∧ w'.rowIs w.heap.size 3 len (fun i => .int .i64 (f i)) ∧ w'.heap.size = w.heap.size + 1 ∧ Below w.heap.size w w' := by
  have he := fun w => Lib.run_eql_slice_nil (P := Try.prog) w 36 3 (some ⟨b, off, none⟩) len cap 0 0 Try.underlying36
  have hmk := run_make_row' (P := Try.prog) 36 3 (.int .i64 0) 8 Try.underlying36 Try.info3 rfl .i64 .i64 len (by omega) (by omega)
  have HC : Hid (∀ i, i < len → w.cell? ⟨b, off + i, none⟩ = some (.int .i64 (f i))) := hc
  clear hc
  go_enter Try.func17, Try.ntmps17
  go_wp2
  go_loopg [4] len (fun n i wr => ∃ k : Nat, k ≤ len ∧ n = len - k ∧ i = .int .i64 k ∧ wr.rowIs w.heap.size 3 len (fun j => if j < k then .int .i64 (f j) else .int .i64 0) ∧ wr.heap.size = w.heap.size + 1 ∧ Below w.heap.size w wr)
  case atStart =>
    exact ⟨0, Nat.zero_le _, rfl, rfl, (World.rowIs_made w (.int .i64 0) len 3).congr (fun i _ => by simp), by simp, (Below.refl _ _).alloc (Nat.le_refl _) _⟩
  case round =>
    obtain ⟨k, hk, rfl, rfl, hr, hs, hbl⟩ := hrel
    have hc1 : k < len → wr.cell? ⟨b, off + k, none⟩ = some (.int .i64 (f k)) := fun h => (hbl.cell (p := ⟨b, off + k, none⟩) hb).trans (HC.out k h)
    have hc2 : k < len → wr.cell? ⟨w.heap.size, k, none⟩ = some (if k < k then .int .i64 (f k) else .int .i64 0) := fun h => hr.cell h
    have hf := hr.frozen k
    go_wp2
    · have hlt : k < len := by assumption
      go_roundg (len - (k + 1))
      case measure => omega
      case rel =>
        refine ⟨k + 1, by omega, rfl, by go_num, (hr.set k _).congr ?_, by simpa using hs, hbl.setCell (Nat.le_refl _) _⟩
        intro j _
        by_cases h1 : j = k
        · subst h1; simp
        · have h2 : (j < k + 1) = (j < k) := by simp; omega
          simp only [h1, if_false, h2]
    · go_ret
      exact ⟨rfl, hr.congr (fun i hi => by rw [if_pos (by omega)]), hs, hbl⟩

theorem elems_addr {w : World} {x : Addr} {len : Nat} {f : Nat → Value} (h : ∀ i, i < len → w.cell? (x.add i) = some (f i)) (hl : 0 < len) :
    ∃ b off, x = ⟨b, off, none⟩ ∧ b < w.heap.size ∧ ∀ i, i < len → w.cell? ⟨b, off + i, none⟩ = some (f i) := by
  obtain ⟨b, off, spot⟩ := x
  have hs : spot = none := by simpa [Addr.add] using World.cell?_spot (h 0 hl)
  subst hs
  have h2 : ∀ i, i < len → w.cell? ⟨b, off + i, none⟩ = some (f i) := fun i hi => by rw [← add_plain]; exact h i hi
  exact ⟨b, off, rfl, lt_of_cell (h2 0 hl), h2⟩

theorem clone17_nil (w : World) (cap : Nat) : Calls Try.prog 17 #[.slice none 0 cap] w fun e w' => e = .returned (.slice none 0 0) ∧ w' = w := by
  have he := fun w => Lib.run_eql_slice_nil (P := Try.prog) w 36 3 none 0 cap 0 0 Try.underlying36
  go_enter Try.func17, Try.ntmps17
  go_wp2
  go_ret
  exact ⟨rfl, rfl⟩

theorem clone17_empty (x : Addr) (w : World) (cap : Nat) : Calls Try.prog 17 #[.slice (some x) 0 cap] w fun e w' => e = .returned (.slice (some ⟨w.heap.size, 0, none⟩) 0 0) ∧ w' = w.alloc (.cells (madeCells #[.int .i64 0] 0) 3) := by
  have he := fun w => Lib.run_eql_slice_nil (P := Try.prog) w 36 3 (some x) 0 cap 0 0 Try.underlying36
  have hmk : ∀ w, (Instr.makeSlice 36 (.int .i64 0) (.int .i64 0)).run Try.prog w = .ok (.slice (some ⟨w.heap.size, 0, none⟩) 0 0) (w.alloc (.cells (madeCells #[.int .i64 0] 0) 3)) := fun w => run_make_row' (P := Try.prog) 36 3 (.int .i64 0) 8 Try.underlying36 Try.info3 rfl .i64 .i64 0 (by omega) (by omega) w
  go_enter Try.func17, Try.ntmps17
  go_wp2
  refine wp_loop_rounds 1 ?_
  rw [rounds_succ]
  go_wp2
  go_ret
  exact ⟨rfl, rfl⟩

/-- THE COPY: nil stays nil; else a new row of the same numbers. -/
theorem clone17 (ad : Option Addr) (len cap : Nat) (f : Nat → Int) (w : World) (hm : len ≤ 1048576) (hE : Elems w ad len (fun i => .int .i64 (f i))) :
    Calls Try.prog 17 #[.slice ad len cap] w fun e w' => ∃ ad', e = .returned (.slice ad' len len) ∧ Elems w' ad' len (fun i => .int .i64 (f i)) ∧ (∀ x, ad' = some x → x.block = w.heap.size) ∧ w'.heap.size ≤ w.heap.size + 1 ∧ Below w.heap.size w w' := by
  cases ad with
  | none =>
    have h0 := hE.1 rfl
    subst h0
    refine (clone17_nil w cap).mono ?_
    rintro e w' ⟨rfl, rfl⟩
    exact ⟨none, rfl, ⟨fun _ => rfl, fun x (hx : none = some x) => by cases hx⟩, fun x (hx : none = some x) => (by cases hx), Nat.le_succ _, Below.refl _ _⟩
  | some x =>
    by_cases hl : 0 < len
    · obtain ⟨b, off, rfl, hb, hc⟩ := elems_addr (hE.2 x rfl) hl
      refine (clone17_some b off len cap f w hm hc hb).mono ?_
      rintro e w' ⟨rfl, hr, hs, hbl⟩
      refine ⟨_, rfl, ⟨(fun h => by cases h), fun x hx i hi => ?_⟩, fun x hx => by cases hx; rfl, by omega, hbl⟩
      cases hx
      rw [add_plain, Nat.zero_add]; exact hr.cell hi
    · have h0 : len = 0 := by omega
      subst h0
      refine (clone17_empty x w cap).mono ?_
      rintro e w' ⟨rfl, rfl⟩
      exact ⟨_, rfl, ⟨(fun h => by cases h), fun x hx i hi => absurd hi (Nat.not_lt_zero _)⟩, fun x hx => by cases hx; rfl, by simp, (Below.refl _ _).alloc (Nat.le_refl _) _⟩

end Go.Proofs.Qxb6605336a
