/-
  WALKS for the round trip: ZZreadGroups (10), the bound (12), the copy of the words (13), the digits (32, 14, 15).
-/
import Derived.Test.Qxb6605336aRgC
namespace Go.Proofs.Qxb6605336a
open Go.RowKit Go.Deep Go.ChangeAt Go.WideShapes Go.ChangeShapes
open Rg (hexOk hexD digB)

theorem read10 (s : ByteArray) (ad : Option Addr) (cap : Nat) (orig : List Int) (ip : Bool) (w : World) (hs : s.size ≤ 1048576) (ho : orig.length ≤ 1048576) (hlc : orig.length ≤ cap) (hD : DstIs w ad orig) :
    Calls Try.prog 10 #[.string s, .slice ad orig.length cap, .bool ip] w fun e w' =>
      e = .returned (.tuple #[.int .i64 (Rg.rgs orig.length ip (bs s)).1.length, .bool (Rg.rgs orig.length ip (bs s)).2]) ∧ DstIs w' ad (fillD (Rg.rgs orig.length ip (bs s)).1 orig) ∧ OnlyA ad w w' := by
  have hc := read26 s ad cap orig ip w hs ho hlc hD
  generalize Rg.rgs orig.length ip (bs s) = R at hc ⊢
  go_enter Try.func10, Try.ntmps10
  go_wp2_with fail
  refine hc.mono ?_
  rintro e w' ⟨rfl, h1, h2⟩
  go_wp2
  go_ret2
  exact ⟨rfl, h1, h2⟩

theorem Try.info33 : (Try.prog.info? 33).map (fun i => (i.zero, i.size, i.bytes)) = some (some (.int .u16 0), 1, 2) := by kernel_rfl
theorem Try.info5 : (Try.prog.info? 5).map (fun i => (i.zero, i.size, i.bytes)) = some (some (.int .u8 0), 1, 1) := by kernel_rfl

/-! ### 13: the copy -/
set_option maxHeartbeats 400000 in
theorem clone13_some (b off len cap : Nat) (f : Nat → Int) (w : World) (hm : len ≤ 1048576)
    (hc : ∀ i, i < len → w.cell? ⟨b, off + i, none⟩ = some (.int .u16 (f i))) (hb : b < w.heap.size) :
    Calls Try.prog 13 #[.slice (some ⟨b, off, none⟩) len cap] w fun e w' => e = .returned (.slice (some ⟨w.heap.size, 0, none⟩) len len) ∧ w'.rowIs w.heap.size 33 len (fun i => .int .u16 (f i)) ∧ w'.heap.size = w.heap.size + 1 ∧ Below w.heap.size w w' := by
  have he := fun w => Lib.run_eql_slice_nil (P := Try.prog) w 29 33 (some ⟨b, off, none⟩) len cap 0 0 Try.underlying29
  have hmk := run_make_row' (P := Try.prog) 29 33 (.int .u16 0) 2 Try.underlying29 Try.info33 rfl .i64 .i64 len (by omega) (by omega)
  have HC : Hid (∀ i, i < len → w.cell? ⟨b, off + i, none⟩ = some (.int .u16 (f i))) := hc
  clear hc
  go_enter Try.func13, Try.ntmps13
  go_wp2
  go_loopg [4] len (fun n i wr => ∃ k : Nat, k ≤ len ∧ n = len - k ∧ i = .int .i64 k ∧ wr.rowIs w.heap.size 33 len (fun j => if j < k then .int .u16 (f j) else .int .u16 0) ∧ wr.heap.size = w.heap.size + 1 ∧ Below w.heap.size w wr)
  case atStart =>
    exact ⟨0, Nat.zero_le _, rfl, rfl, (World.rowIs_made w (.int .u16 0) len 33).congr (fun i _ => by simp), by simp, (Below.refl _ _).alloc (Nat.le_refl _) _⟩
  case round =>
    obtain ⟨k, hk, rfl, rfl, hr, hs, hbl⟩ := hrel
    have hc1 : k < len → wr.cell? ⟨b, off + k, none⟩ = some (.int .u16 (f k)) := fun h => (hbl.cell (p := ⟨b, off + k, none⟩) hb).trans (HC.out k h)
    have hc2 : k < len → wr.cell? ⟨w.heap.size, k, none⟩ = some (if k < k then .int .u16 (f k) else .int .u16 0) := fun h => hr.cell h
    have hf := hr.frozen k
    go_wp2
    · have hlt : k < len := by assumption
      go_roundg (len - (k + 1))
      case measure => omega
      case rel =>
        refine ⟨k + 1, by omega, rfl, by go_num, (hr.set k _).congr ?_, by simpa using hs, hbl.setCell (Nat.le_refl _) _⟩
        intro j _
        by_cases h1 : j = k
        · subst h1; simp
        · have h2 : (j < k + 1) = (j < k) := by simp; omega
          simp only [h1, if_false, h2]
    · go_ret
      exact ⟨rfl, hr.congr (fun i hi => by rw [if_pos (by omega)]), hs, hbl⟩

theorem clone13_nil (w : World) (cap : Nat) : Calls Try.prog 13 #[.slice none 0 cap] w fun e w' => e = .returned (.slice none 0 0) ∧ w' = w := by
  have he := fun w => Lib.run_eql_slice_nil (P := Try.prog) w 29 33 none 0 cap 0 0 Try.underlying29
  go_enter Try.func13, Try.ntmps13
  go_wp2
  go_ret
  exact ⟨rfl, rfl⟩

theorem clone13_empty (x : Addr) (w : World) (cap : Nat) : Calls Try.prog 13 #[.slice (some x) 0 cap] w fun e w' => e = .returned (.slice (some ⟨w.heap.size, 0, none⟩) 0 0) ∧ w' = w.alloc (.cells (madeCells #[.int .u16 0] 0) 33) := by
  have he := fun w => Lib.run_eql_slice_nil (P := Try.prog) w 29 33 (some x) 0 cap 0 0 Try.underlying29
  have hmk : ∀ w, (Instr.makeSlice 29 (.int .i64 0) (.int .i64 0)).run Try.prog w = .ok (.slice (some ⟨w.heap.size, 0, none⟩) 0 0) (w.alloc (.cells (madeCells #[.int .u16 0] 0) 33)) := fun w => run_make_row' (P := Try.prog) 29 33 (.int .u16 0) 2 Try.underlying29 Try.info33 rfl .i64 .i64 0 (by omega) (by omega) w
  go_enter Try.func13, Try.ntmps13
  go_wp2
  refine wp_loop_rounds 1 ?_
  rw [rounds_succ]
  go_wp2
  go_ret
  exact ⟨rfl, rfl⟩

/-- THE COPY: nil stays nil; else a new row of the same elements. -/
theorem clone13 (ad : Option Addr) (len cap : Nat) (f : Nat → Int) (w : World) (hm : len ≤ 1048576) (hE : Elems w ad len (fun i => .int .u16 (f i))) :
    Calls Try.prog 13 #[.slice ad len cap] w fun e w' => ∃ ad', e = .returned (.slice ad' len len) ∧ Elems w' ad' len (fun i => .int .u16 (f i)) ∧ (∀ x, ad' = some x → x = ⟨w.heap.size, 0, none⟩) ∧ w'.heap.size ≤ w.heap.size + 1 ∧ Below w.heap.size w w' := by
  cases ad with
  | none =>
    have h0 := hE.1 rfl
    subst h0
    refine (clone13_nil w cap).mono ?_
    rintro e w' ⟨rfl, rfl⟩
    exact ⟨none, rfl, ⟨fun _ => rfl, fun x (hx : none = some x) => by cases hx⟩, fun x (hx : none = some x) => (by cases hx), Nat.le_succ _, Below.refl _ _⟩
  | some x =>
    by_cases hl : 0 < len
    · obtain ⟨b, off, rfl, hb, hc⟩ := elems_addr (hE.2 x rfl) hl
      refine (clone13_some b off len cap f w hm hc hb).mono ?_
      rintro e w' ⟨rfl, hr, hs, hbl⟩
      refine ⟨_, rfl, ⟨(fun h => by cases h), fun x hx i hi => ?_⟩, fun x hx => by cases hx; rfl, by omega, hbl⟩
      cases hx
      rw [add_plain, Nat.zero_add]; exact hr.cell hi
    · have h0 : len = 0 := by omega
      subst h0
      refine (clone13_empty x w cap).mono ?_
      rintro e w' ⟨rfl, rfl⟩
      exact ⟨_, rfl, ⟨(fun h => by cases h), fun x hx i hi => absurd hi (Nat.not_lt_zero _)⟩, fun x hx => by cases hx; rfl, by simp, (Below.refl _ _).alloc (Nat.le_refl _) _⟩

theorem bytes12 (ad : Option Addr) (len cap : Nat) (b1 b2 b3 : Bool) (q0 q1 q2 q3 : Int) (w : World) (hl : len ≤ 9223372036854775807) :
    Calls Try.prog 12 #[.slice ad len cap, .bool b1, .bool b2, .bool b3, .int .u8 q0, .int .u8 q1, .int .u8 q2, .int .u8 q3] w fun e w' => (∃ b : Bool, e = .returned (.bool b)) ∧ w' = w := by
  by_cases h : 1048576 < len
  · go_enter Try.func12, Try.ntmps12
    go_wp2
    go_ret
    exact ⟨⟨_, rfl⟩, rfl⟩
  · go_enter Try.func12, Try.ntmps12
    go_wp2
    go_ret
    exact ⟨⟨_, rfl⟩, rfl⟩

/-- A hex digit's character. -/
def hexC (d : Int) (up : Bool) : Int := if d < 10 then d + 48 else if up = true then d + 55 else d + 87
theorem char32 (d : Int) (up : Bool) (w : World) (h0 : 0 ≤ d) (h1 : d ≤ 15) : Calls Try.prog 32 #[.int .u8 d, .bool up] w fun e w' => e = .returned (.int .u8 (hexC d up)) ∧ w' = w := by
  by_cases h : d < 10
  · have e : hexC d up = d + 48 := if_pos h
    rw [e]
    clear e
    go_enter Try.func32, Try.ntmps32
    go_wp2
    go_ret
    exact ⟨by go_num, rfl⟩
  · cases up
    · have e : hexC d false = d + 87 := by unfold hexC; rw [if_neg h]; rfl
      rw [e]
      clear e
      go_enter Try.func32, Try.ntmps32
      go_wp2
      go_ret
      exact ⟨by go_num, rfl⟩
    · have e : hexC d true = d + 55 := by unfold hexC; rw [if_neg h]; rfl
      rw [e]
      clear e
      go_enter Try.func32, Try.ntmps32
      go_wp2
      go_ret
      exact ⟨by go_num, rfl⟩

end Go.Proofs.Qxb6605336a
