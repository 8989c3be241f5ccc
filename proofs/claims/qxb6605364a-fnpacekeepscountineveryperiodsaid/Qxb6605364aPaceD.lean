/-
  WALK: the law 'FnPaceKeepsCountInEveryPeriod' (5).
-/
import Derived.Test.Qxb6605364aPaceP
namespace Go.Proofs.Qxb6605364a
open Go.RowKit Go.Deep Go.ChangeAt Go.WideShapes Go.ChangeShapes

theorem lt_of_cell {w : World} {a : Addr} {v : Value} (h : w.cell? a = some v) : a.block < w.heap.size := by
  unfold World.cell? at h
  by_cases hb : a.block < w.heap.size
  · exact hb
  · rw [Array.getElem?_eq_none (by omega)] at h
    simp at h

/-- What a slice's elements hold: nil and empty, or an address from which on they lie. -/
def Elems (w : World) (ad : Option Addr) (len : Nat) (f : Nat → Value) : Prop :=
  (ad = none → len = 0) ∧ ∀ x, ad = some x → ∀ i, i < len → w.cell? (x.add i) = some (f i)
theorem Elems.kept {w w' : World} {ad : Option Addr} {len : Nat} {f : Nat → Value} (h : Elems w ad len f) (hb : Below w.heap.size w w') : Elems w' ad len f :=
  ⟨h.1, fun x hx i hi => (hb.cell (lt_of_cell (h.2 x hx i hi))).trans (h.2 x hx i hi)⟩

/-- Word k: its address, and what lies there. -/
theorem word_at {w : World} {ad : Option Addr} {len : Nat} {f : Nat → Value} (cap : Nat) (hE : Elems w ad len f) {k : Nat} (hk : k < len) :
    ∃ a : Addr, a.block < w.heap.size ∧ (∀ w', (Instr.indexAt 30 (.slice ad len cap) (.int .i64 (k : Int))).run Try.prog w' = .ok (.pointer (some a)) w') ∧ w.cell? a = some (f k) := by
  cases ad with
  | none => have := hE.1 rfl; omega
  | some x =>
    refine ⟨x.add k, lt_of_cell (hE.2 x rfl k hk), fun w' => ?_, hE.2 x rfl k hk⟩
    have hs : (sizeOf (Try.prog.elem 30)).run Try.prog w' = .ok 1 w' := by kernel_rfl
    rw [run_indexAt_slice w' 30 x len cap .i64 (k : Int) (by kernel_rfl), if_pos (by omega), hs]
    simp

theorem row_elems {w : World} {g n : Nat} {f : Nat → Value} (h : w.rowIs g 22 n f) : Elems w (some ⟨g, 0, none⟩) n f := by
  refine ⟨(fun h => by cases h), fun x hx i hi => ?_⟩
  cases hx
  rw [add_plain, Nat.zero_add]; exact h.cell hi

theorem Try.info22 : (Try.prog.info? 22).map (fun i => (i.zero, i.size, i.bytes)) = some (some (.int .u64 0), 1, 8) := by kernel_rfl

theorem new6B (m c : Int) (w : World) (m0 : 0 ≤ m) (m1 : m ≤ 18446744073709551615) (c0 : 2 ≤ c) (c1 : c ≤ 18446744073709551615) (hs : m + (c - c / 10) - 1 ≤ 18446744073709551615) :
    Calls Try.prog 6 #[.int .u64 m, .int .u64 c] w fun e w' => e = .returned (.tuple #[.int .u64 (pI m c), .int .u64 (pT m c), .int .u64 0, .int .u64 0]) ∧ Below w.heap.size w w' := by
  refine (new6 m c w m0 m1 c0 c1 hs).mono ?_
  rintro e w' ⟨rfl, n, rfl⟩
  exact ⟨rfl, below_drewN (((Below.refl _ _).alloc (Nat.le_refl _) _).alloc (by simp) _) n⟩
theorem early7B (iv tol nx ga : Int) (w : World) (t0 : 0 ≤ tol) (n1 : nx ≤ 18446744073709551615) :
    Calls Try.prog 7 #[.int .u64 iv, .int .u64 tol, .int .u64 nx, .int .u64 ga] w fun e w' => e = .returned (.tuple #[.int .u64 (early tol nx), .int .u64 iv, .int .u64 tol, .int .u64 nx, .int .u64 ga]) ∧ Below w.heap.size w w' := by
  refine (early7 iv tol nx ga w t0 n1).mono ?_
  rintro e w' ⟨rfl, n, rfl⟩
  exact ⟨rfl, below_drewN ((Below.refl _ _).alloc (Nat.le_refl _) _) n⟩

set_option maxRecDepth 100000 in
set_option maxHeartbeats 1000000 in
theorem law5_early (m c : Int) (ad : Option Addr) (n cap : Nat) (w : World) (m0 : 0 ≤ m) (m1 : m ≤ 18446744073709551615) (c0 : 0 ≤ c) (c1 : c ≤ 18446744073709551615) (hn : n ≤ 9223372036854775807)
    (h : 65536 < n ∨ c < 2 ∨ m = 0 ∨ 1099511627776 < m) :
    Calls Try.prog 5 #[.int .u64 m, .int .u64 c, .slice ad n cap] w fun e w' => e = .returned (.bool true) ∧ Below w.heap.size w w' := by
  by_cases h1 : 65536 < n
  · clear h
    go_enter Try.func5, Try.ntmps5
    go_wp2_with fail
    refine (bytes9 m c ad n cap w hn).mono ?_
    rintro e w0 ⟨⟨bb, rfl⟩, rfl⟩
    cases bb <;> (go_wp2; go_ret; exact ⟨rfl, Below.refl _ _⟩)
  · by_cases h2 : c < 2
    · clear h
      go_enter Try.func5, Try.ntmps5
      go_wp2_with fail
      refine (bytes9 m c ad n cap w hn).mono ?_
      rintro e w0 ⟨⟨bb, rfl⟩, rfl⟩
      cases bb <;> (go_wp2; go_ret; exact ⟨rfl, Below.refl _ _⟩)
    · by_cases h3 : m = 0
      · subst h3
        clear h
        go_enter Try.func5, Try.ntmps5
        go_wp2_with fail
        refine (bytes9 0 c ad n cap w hn).mono ?_
        rintro e w0 ⟨⟨bb, rfl⟩, rfl⟩
        cases bb <;> (go_wp2; go_ret; exact ⟨rfl, Below.refl _ _⟩)
      · have h4 : 1099511627776 < m := by omega
        clear h
        go_enter Try.func5, Try.ntmps5
        go_wp2_with fail
        refine (bytes9 m c ad n cap w hn).mono ?_
        rintro e w0 ⟨⟨bb, rfl⟩, rfl⟩
        cases bb <;> (go_wp2; go_ret; exact ⟨rfl, Below.refl _ _⟩)

end Go.Proofs.Qxb6605364a
