/-
  WALKS for the two laws on 'grantTo': the library's Index and Contains (48, 46), the copy of the strings (22), the weight of the strings (21).
-/
import Derived.Test.Qxb6605336aSearchB
namespace Go.Proofs.Qxb6605336a
open Go.RowKit Go.Deep Go.ChangeAt Go.WideShapes Go.ChangeShapes

theorem Try.info9 : (Try.prog.info? 9).map (fun i => (i.zero, i.size, i.bytes)) = some (some (.string ByteArray.empty), 1, 16) := by kernel_rfl

/-- Is v among the first len of g? -/
def hasB (g : Nat → ByteArray) (len : Nat) (v : ByteArray) : Bool := (List.range len).any (fun i => v.toList == (g i).toList)
theorem hasB_yes {g : Nat → ByteArray} {len k : Nat} {v : ByteArray} (hk : k < len) (h : (v.toList == (g k).toList) = true) : hasB g len v = true := by
  unfold hasB
  rw [List.any_eq_true]
  exact ⟨k, by simpa using hk, h⟩
theorem hasB_no {g : Nat → ByteArray} {len : Nat} {v : ByteArray} (h : ∀ j, j < len → (v.toList == (g j).toList) = false) : hasB g len v = false := by
  unfold hasB
  rw [List.any_eq_false]
  intro x hx
  rw [h x (by simpa using hx)]
  decide

/-- The ending: an index that is not negative just where b. -/
def IdxIs (e : Ending) (b : Bool) : Prop := ∃ r : Int, e = .returned (.int .i64 r) ∧ decide (0 ≤ r) = b

set_option maxHeartbeats 400000 in
theorem index48_some (b off len cap : Nat) (g : Nat → ByteArray) (v : ByteArray) (w : World) (hm : len ≤ 1048576) (hc : ∀ i, i < len → w.cell? ⟨b, off + i, none⟩ = some (.string (g i))) :
    Calls Try.prog 48 #[.slice (some ⟨b, off, none⟩) len cap, .string v] w fun e w' => IdxIs e (hasB g len v) ∧ w' = w := by
  have HC : Hid (∀ i, i < len → w.cell? ⟨b, off + i, none⟩ = some (.string (g i))) := hc
  clear hc
  go_enter Try.func48, Try.ntmps48
  go_wp2
  go_loopg [8] len (fun n i wr => ∃ k : Nat, k ≤ len ∧ n = len - k ∧ i = .int .i64 k ∧ (∀ j, j < k → (v.toList == (g j).toList) = false) ∧ wr = w)
  case atStart => exact ⟨0, Nat.zero_le _, rfl, rfl, fun j hj => absurd hj (Nat.not_lt_zero _), rfl⟩
  case round =>
    obtain ⟨k, hk, rfl, rfl, hall, rfl⟩ := hrel
    have HA : Hid (∀ j, j < k → (v.toList == (g j).toList) = false) := hall
    clear hall
    by_cases hlt : k < len
    · have g1 := HC.out k hlt
      go_wp2
      · have hy : (v.toList == (g k).toList) = true := by assumption
        go_ret
        exact ⟨⟨k, rfl, by rw [hasB_yes hlt hy]; exact decide_eq_true (by omega)⟩, rfl⟩
      · have hn : (v.toList == (g k).toList) = false := by assumption
        go_roundg (len - (k + 1))
        case measure => omega
        case rel =>
          refine ⟨k + 1, by omega, rfl, by go_num, fun j hj => ?_, rfl⟩
          by_cases hjk : j = k
          · subst hjk; exact hn
          · exact HA.out j (by omega)
    · go_wp2
      go_ret
      exact ⟨⟨-1, rfl, by rw [hasB_no (fun j hj => HA.out j (by omega))]; decide⟩, rfl⟩

theorem index48_empty (ad : Option Addr) (cap : Nat) (g : Nat → ByteArray) (v : ByteArray) (w : World) :
    Calls Try.prog 48 #[.slice ad 0 cap, .string v] w fun e w' => IdxIs e (hasB g 0 v) ∧ w' = w := by
  go_enter Try.func48, Try.ntmps48
  go_wp2
  refine wp_loop_rounds 1 ?_
  rw [rounds_succ]
  go_wp2
  go_ret
  exact ⟨⟨-1, rfl, rfl⟩, rfl⟩

theorem index48 (ad : Option Addr) (len cap : Nat) (g : Nat → ByteArray) (v : ByteArray) (w : World) (hm : len ≤ 1048576) (hE : Elems w ad len (fun i => .string (g i))) :
    Calls Try.prog 48 #[.slice ad len cap, .string v] w fun e w' => IdxIs e (hasB g len v) ∧ w' = w := by
  by_cases hl : 0 < len
  · cases ad with
    | none => have := hE.1 rfl; omega
    | some x =>
      obtain ⟨b, off, rfl, hb, hc⟩ := elems_addr (hE.2 x rfl) hl
      exact index48_some b off len cap g v w hm hc
  · have h0 : len = 0 := by omega
    subst h0
    exact index48_empty ad cap g v w

/-- 46: Contains. -/
theorem contains46 (ad : Option Addr) (len cap : Nat) (g : Nat → ByteArray) (v : ByteArray) (w : World) (hm : len ≤ 1048576) (hE : Elems w ad len (fun i => .string (g i))) :
    Calls Try.prog 46 #[.slice ad len cap, .string v] w fun e w' => e = .returned (.bool (hasB g len v)) ∧ w' = w := by
  go_enter Try.func46, Try.ntmps46
  go_wp2_with fail
  refine (index48 ad len cap g v w hm hE).mono ?_
  rintro e w' ⟨⟨r, rfl, hr⟩, rfl⟩
  go_wp2
  go_ret
  exact ⟨rfl, rfl⟩

/-! ### 22: the copy -/
set_option maxHeartbeats 400000 in
theorem clone22_some (b off len cap : Nat) (f : Nat → ByteArray) (w : World) (hm : len ≤ 1048576)
    (hc : ∀ i, i < len → w.cell? ⟨b, off + i, none⟩ = some (.string (f i))) (hb : b < w.heap.size) :
    Calls Try.prog 22 #[.slice (some ⟨b, off, none⟩) len cap] w fun e w' => e = .returned (.slice (some ⟨w.heap.size, 0, none⟩) len len) ∧ w'.rowIs w.heap.size 9 len (fun i => .string (f i)) ∧ w'.heap.size = w.heap.size + 1 ∧ Below w.heap.size w w' := by
  have he := fun w => Lib.run_eql_slice_nil (P := Try.prog) w 44 9 (some ⟨b, off, none⟩) len cap 0 0 Try.underlying44
  have hmk := run_make_row' (P := Try.prog) 44 9 (.string ByteArray.empty) 16 Try.underlying44 Try.info9 rfl .i64 .i64 len (by omega) (by omega)
  have HC : Hid (∀ i, i < len → w.cell? ⟨b, off + i, none⟩ = some (.string (f i))) := hc
  clear hc
  go_enter Try.func22, Try.ntmps22
  go_wp2
  go_loopg [4] len (fun n i wr => ∃ k : Nat, k ≤ len ∧ n = len - k ∧ i = .int .i64 k ∧ wr.rowIs w.heap.size 9 len (fun j => if j < k then .string (f j) else .string ByteArray.empty) ∧ wr.heap.size = w.heap.size + 1 ∧ Below w.heap.size w wr)
  case atStart =>
    exact ⟨0, Nat.zero_le _, rfl, rfl, (World.rowIs_made w (.string ByteArray.empty) len 9).congr (fun i _ => by simp), by simp, (Below.refl _ _).alloc (Nat.le_refl _) _⟩
  case round =>
    obtain ⟨k, hk, rfl, rfl, hr, hs, hbl⟩ := hrel
    have hc1 : k < len → wr.cell? ⟨b, off + k, none⟩ = some (.string (f k)) := fun h => (hbl.cell (p := ⟨b, off + k, none⟩) hb).trans (HC.out k h)
    have hc2 : k < len → wr.cell? ⟨w.heap.size, k, none⟩ = some (if k < k then .string (f k) else .string ByteArray.empty) := fun h => hr.cell h
    have hf := hr.frozen k
    go_wp2
    · have hlt : k < len := by assumption
      go_roundg (len - (k + 1))
      case measure => omega
      case rel =>
        refine ⟨k + 1, by omega, rfl, by go_num, (hr.set k _).congr ?_, by simpa using hs, hbl.setCell (Nat.le_refl _) _⟩
        intro j _
        by_cases h1 : j = k
        · subst h1; simp
        · have h2 : (j < k + 1) = (j < k) := by simp; omega
          simp only [h1, if_false, h2]
    · go_ret
      exact ⟨rfl, hr.congr (fun i hi => by rw [if_pos (by omega)]), hs, hbl⟩

theorem clone22_nil (w : World) (cap : Nat) : Calls Try.prog 22 #[.slice none 0 cap] w fun e w' => e = .returned (.slice none 0 0) ∧ w' = w := by
  have he := fun w => Lib.run_eql_slice_nil (P := Try.prog) w 44 9 none 0 cap 0 0 Try.underlying44
  go_enter Try.func22, Try.ntmps22
  go_wp2
  go_ret
  exact ⟨rfl, rfl⟩

theorem clone22_empty (x : Addr) (w : World) (cap : Nat) : Calls Try.prog 22 #[.slice (some x) 0 cap] w fun e w' => e = .returned (.slice (some ⟨w.heap.size, 0, none⟩) 0 0) ∧ w' = w.alloc (.cells (madeCells #[.string ByteArray.empty] 0) 9) := by
  have he := fun w => Lib.run_eql_slice_nil (P := Try.prog) w 44 9 (some x) 0 cap 0 0 Try.underlying44
  have hmk : ∀ w, (Instr.makeSlice 44 (.int .i64 0) (.int .i64 0)).run Try.prog w = .ok (.slice (some ⟨w.heap.size, 0, none⟩) 0 0) (w.alloc (.cells (madeCells #[.string ByteArray.empty] 0) 9)) := fun w => run_make_row' (P := Try.prog) 44 9 (.string ByteArray.empty) 16 Try.underlying44 Try.info9 rfl .i64 .i64 0 (by omega) (by omega) w
  go_enter Try.func22, Try.ntmps22
  go_wp2
  refine wp_loop_rounds 1 ?_
  rw [rounds_succ]
  go_wp2
  go_ret
  exact ⟨rfl, rfl⟩

/-- THE COPY: nil stays nil; else a new row of the same elements. -/
theorem clone22 (ad : Option Addr) (len cap : Nat) (f : Nat → ByteArray) (w : World) (hm : len ≤ 1048576) (hE : Elems w ad len (fun i => .string (f i))) :
    Calls Try.prog 22 #[.slice ad len cap] w fun e w' => ∃ ad', e = .returned (.slice ad' len len) ∧ Elems w' ad' len (fun i => .string (f i)) ∧ (∀ x, ad' = some x → x = ⟨w.heap.size, 0, none⟩) ∧ w'.heap.size ≤ w.heap.size + 1 ∧ Below w.heap.size w w' := by
  cases ad with
  | none =>
    have h0 := hE.1 rfl
    subst h0
    refine (clone22_nil w cap).mono ?_
    rintro e w' ⟨rfl, rfl⟩
    exact ⟨none, rfl, ⟨fun _ => rfl, fun x (hx : none = some x) => by cases hx⟩, fun x (hx : none = some x) => (by cases hx), Nat.le_succ _, Below.refl _ _⟩
  | some x =>
    by_cases hl : 0 < len
    · obtain ⟨b, off, rfl, hb, hc⟩ := elems_addr (hE.2 x rfl) hl
      refine (clone22_some b off len cap f w hm hc hb).mono ?_
      rintro e w' ⟨rfl, hr, hs, hbl⟩
      refine ⟨_, rfl, ⟨(fun h => by cases h), fun x hx i hi => ?_⟩, fun x hx => by cases hx; rfl, by omega, hbl⟩
      cases hx
      rw [add_plain, Nat.zero_add]; exact hr.cell hi
    · have h0 : len = 0 := by omega
      subst h0
      refine (clone22_empty x w cap).mono ?_
      rintro e w' ⟨rfl, rfl⟩
      exact ⟨_, rfl, ⟨(fun h => by cases h), fun x hx i hi => absurd hi (Nat.not_lt_zero _)⟩, fun x hx => by cases hx; rfl, by simp, (Below.refl _ _).alloc (Nat.le_refl _) _⟩

/-! ### 21: the weight of the strings -/
def WtIs (e : Ending) (len : Nat) : Prop := ∃ t : Int, e = .returned (.int .i64 t) ∧ 0 ≤ t ∧ t ≤ 1048577 ∧ (t ≤ 1048576 → len ≤ 65536)

theorem weight21_some (b off len cap : Nat) (g : Nat → ByteArray) (w : World) (hm : len ≤ maxLen) (hc : ∀ i, i < len → w.cell? ⟨b, off + i, none⟩ = some (.string (g i))) (hg : ∀ i, i < len → (g i).size ≤ maxLen) :
    Calls Try.prog 21 #[.slice (some ⟨b, off, none⟩) len cap] w fun e w' => WtIs e len ∧ w' = w := by
  have HC : Hid (∀ i, i < len → w.cell? ⟨b, off + i, none⟩ = some (.string (g i)) ∧ (g i).size ≤ 9223372036854775807) := fun i hi => ⟨hc i hi, hg i hi⟩
  unfold maxLen at hm
  clear hc hg
  go_enter Try.func21, Try.ntmps21
  go_wp2
  go_loopg [3, 4] len (fun n tv i wr => ∃ (k : Nat) (t : Int), k ≤ len ∧ n = len - k ∧ i = .int .i64 k ∧ tv = .int .i64 t ∧ 16 * (k : Int) ≤ t ∧ t ≤ 1048576 ∧ wr = w)
  case atStart => exact ⟨0, 0, Nat.zero_le _, rfl, rfl, rfl, by omega, by omega, rfl⟩
  case round =>
    obtain ⟨k, t, hk, rfl, rfl, rfl, h1, h2, rfl⟩ := hrel
    by_cases hlt : k < len
    · obtain ⟨g1, g2⟩ := HC.out k hlt
      by_cases hbig : 1048576 < (g k).size
      · go_wp2
        go_ret
        exact ⟨⟨_, rfl, by omega, by omega, by omega⟩, rfl⟩
      · by_cases hsum : 1048576 < t + (16 + ((g k).size : Int))
        · go_wp2
          go_ret
          exact ⟨⟨_, rfl, by omega, by omega, by omega⟩, rfl⟩
        · go_wp2
          go_roundg (len - (k + 1))
          case measure => omega
          case rel => exact ⟨k + 1, t + (16 + ((g k).size : Int)), by omega, rfl, by go_num, rfl, by omega, by omega, rfl⟩
    · go_wp2
      go_ret
      exact ⟨⟨t, rfl, by omega, by omega, by omega⟩, rfl⟩

theorem weight21_empty (ad : Option Addr) (cap : Nat) (w : World) :
    Calls Try.prog 21 #[.slice ad 0 cap] w fun e w' => WtIs e 0 ∧ w' = w := by
  go_enter Try.func21, Try.ntmps21
  go_wp2
  refine wp_loop_rounds 1 ?_
  rw [rounds_succ]
  go_wp2
  go_ret
  exact ⟨⟨0, rfl, by omega, by omega, by omega⟩, rfl⟩

theorem weight21 (ad : Option Addr) (len cap : Nat) (g : Nat → ByteArray) (w : World) (hm : len ≤ maxLen) (hE : Elems w ad len (fun i => .string (g i))) (hg : ∀ i, i < len → (g i).size ≤ maxLen) :
    Calls Try.prog 21 #[.slice ad len cap] w fun e w' => WtIs e len ∧ w' = w := by
  by_cases hl : 0 < len
  · cases ad with
    | none => have := hE.1 rfl; omega
    | some x =>
      obtain ⟨b, off, rfl, hb, hc⟩ := elems_addr (hE.2 x rfl) hl
      exact weight21_some b off len cap g w hm hc hg
  · have h0 : len = 0 := by omega
    subst h0
    exact weight21_empty ad cap w

end Go.Proofs.Qxb6605336a
