/-
  WALK for 'FnSearchAtScript': the table of borders (40).
-/
import Derived.Test.Qxb6605336aSearchB
namespace Go.Proofs.Qxb6605336a
open Go.RowKit Go.Deep Go.ChangeAt Go.WideShapes Go.ChangeShapes

/-- The table lies in block B: m + 1 numbers, of which 1 .. j are the longest borders. -/
def TabAt (p : ByteArray) (wr : World) (B j : Nat) : Prop :=
  ∃ f : Nat → Nat, Kmp.Tab (bt p) f j ∧ wr.rowIs B 3 (p.size + 1) (fun i => .int .i64 (f i))

theorem TabAt.drewN {p : ByteArray} {wr : World} {B j n : Nat} (h : TabAt p wr B j) : TabAt p (wr.drewN n) B j := h

theorem TabAt.cell {p : ByteArray} {wr : World} {B j c : Nat} (h : TabAt p wr B j) (h1 : 0 < c) (h2 : c ≤ j) (h3 : j ≤ p.size) :
    ∃ d : Nat, Kmp.LBord (bt p) c d ∧ d < c ∧ wr.cell? ⟨B, c, none⟩ = some (.int .i64 (d : Int)) := by
  obtain ⟨f, ht, hr⟩ := h
  have hl := ht c h1 h2
  exact ⟨f c, hl, hl.1.1, hr.cell (by omega)⟩

theorem TabAt.next {p : ByteArray} {wr : World} {B j k : Nat} (h : TabAt p wr B j) (hk : Kmp.LBord (bt p) (j + 1) k) : TabAt p (wr.setCell ⟨B, j + 1, none⟩ (.int .i64 (k : Int))) B (j + 1) := by
  obtain ⟨f, ht, hr⟩ := h
  refine ⟨_, Kmp.tab_next ht hk, (hr.set (j + 1) _).congr ?_⟩
  intro i _
  by_cases e : i = j + 1
  · simp [e]
  · simp [e]

theorem TabAt.opened {p : ByteArray} {wr : World} {B j i : Nat} (h : TabAt p wr B j) (hi : i ≤ p.size) : (∃ v, wr.cell? ⟨B, i, none⟩ = some (.int .i64 v)) ∧ wr.frozen? ⟨B, i, none⟩ = false := by
  obtain ⟨f, _, hr⟩ := h
  exact ⟨⟨_, hr.cell (by omega)⟩, hr.frozen i⟩

theorem TabAt.start (p : ByteArray) (w : World) : TabAt p (w.alloc (.cells (madeCells #[.int .i64 0] (p.size + 1)) 3)) w.heap.size 1 := by
  refine ⟨fun _ => 0, fun i h1 h2 => ?_, (World.rowIs_made w (.int .i64 0) (p.size + 1) 3).congr (fun i _ => rfl)⟩
  have e : i = 1 := by omega
  rw [e]
  exact Kmp.lbord_one

theorem TabAt.done {p : ByteArray} {wr : World} {B j : Nat} (h : TabAt p wr B j) (hj : p.size ≤ j) : TabAt p wr B p.size := by
  obtain ⟨f, ht, hr⟩ := h
  exact ⟨f, fun i a b => ht i a (by omega), hr⟩

set_option maxHeartbeats 1000000 in
theorem borders40 (p : ByteArray) (w : World) (hp : p.size ≤ 1048576) :
    Calls Try.prog 40 #[.string p] w fun e w' => e = .returned (.slice (some ⟨w.heap.size, 0, none⟩) (p.size + 1) (p.size + 1)) ∧ TabAt p w' w.heap.size p.size ∧ w'.heap.size = w.heap.size + 1 ∧ Below w.heap.size w w' := by
  have hmk := run_make_row' (P := Try.prog) 36 3 (.int .i64 0) 8 Try.underlying36 Try.info3 rfl .i64 .i64 (p.size + 1) (by omega) (by omega)
  have ec : ((p.size + 1 : Nat) : Int) = (p.size : Int) + 1 := by omega
  rw [ec] at hmk
  clear ec
  go_enter Try.func40, Try.ntmps40
  go_wp2
  go_loopg [4, 5] p.size (fun n jv kv wr => ∃ j k : Nat, 1 ≤ j ∧ (j ≤ p.size ∨ j = 1) ∧ n + j = p.size + 1 ∧ jv = .int .i64 j ∧ kv = .int .i64 k ∧ Kmp.LBord (bt p) j k ∧ TabAt p wr w.heap.size j ∧ wr.heap.size = w.heap.size + 1 ∧ Below w.heap.size w wr)
  case atStart => exact ⟨1, 0, Nat.le_refl _, .inr rfl, rfl, rfl, rfl, Kmp.lbord_one, TabAt.start p w, by simp, (Below.refl _ _).alloc (Nat.le_refl _) _⟩
  case round =>
    clear hmk
    obtain ⟨j, k, hj1, hj2, hjm, rfl, rfl, hL, hT, hs, hbl⟩ := hrel
    have HJ : Hid (gk + j = p.size + 1) := hjm
    clear hjm
    have HL := Kmp.bi_start hL
    have hkj := hL.1.1
    clear hL
    by_cases hlt : j < p.size
    · have i1 := run_idx p (j : Int) j rfl hlt
      go_wp2
      go_loopg [5] k (fun n kv wq => n ≤ k ∧ kv = .int .i64 n ∧ Kmp.BI (bt p) j n ∧ ∃ nd, wq = wr.drewN nd)
      case atStart => exact ⟨Nat.le_refl _, rfl, HL, 0, rfl⟩
      case round =>
        clear HL
        obtain ⟨hk, rfl, hB, nd, rfl⟩ := hrel
        have hkp : gk < p.size := by omega
        have i2 := run_idx p (gk : Int) gk rfl hkp
        obtain ⟨⟨v, hcj⟩, hfj⟩ := hT.opened (i := j + 1) (by omega)
        by_cases heq : bt p j = bt p gk
        · -- the byte fits: out of the inner loop, k + 1 is stored
          have HL := Kmp.bi_hit hB heq
          have hnext : TabAt p (wr.setCell ⟨w.heap.size, j + 1, none⟩ (.int .i64 ((gk : Int) + 1))) w.heap.size (j + 1) := hT.next HL
          have q1 : (bt p j == bt p gk) = true := by rw [beq_iff_eq]; exact heq
          have q2 : (bt p j != bt p gk) = false := by rw [bne_eq_false_iff_eq]; exact heq
          clear heq
          by_cases h0 : gk = 0
          · have hd : decide (0 < gk) = false := decide_eq_false (by omega)
            clear h0
            go_wp2
            go_quiet (fail)
            go_wp2
            go_quiet (fail)
            go_wp2
            have hj := HJ.out
            go_roundg (p.size - j)
            case measure => omega
            case rel => exact ⟨j + 1, gk + 1, by omega, .inl (by omega), by omega, by go_num, by go_num, HL, hnext, by simpa using hs, (below_drewN hbl _).setCell (Nat.le_refl _) _⟩
          · have hd : decide (0 < gk) = true := decide_eq_true (by omega)
            clear h0
            go_wp2
            go_quiet (fail)
            go_wp2
            go_quiet (fail)
            go_wp2
            have hj := HJ.out
            go_roundg (p.size - j)
            case measure => omega
            case rel => exact ⟨j + 1, gk + 1, by omega, .inl (by omega), by omega, by go_num, by go_num, HL, hnext, by simpa using hs, (below_drewN hbl _).setCell (Nat.le_refl _) _⟩
        · have q1 : (bt p j == bt p gk) = false := by rw [beq_eq_false_iff_ne]; exact heq
          have q2 : (bt p j != bt p gk) = true := by rw [bne_iff_ne]; exact heq
          by_cases h0 : gk = 0
          · -- nothing fits: 0 is stored
            have HL : Kmp.LBord (bt p) (j + 1) gk := by rw [h0]; rw [h0] at hB heq; exact Kmp.bi_miss hB heq
            have hnext : TabAt p (wr.setCell ⟨w.heap.size, j + 1, none⟩ (.int .i64 (gk : Int))) w.heap.size (j + 1) := hT.next HL
            have hd : decide (0 < gk) = false := decide_eq_false (by omega)
            clear h0 heq
            go_wp2
            go_quiet (fail)
            go_wp2
            go_quiet (fail)
            go_wp2
            have hj := HJ.out
            go_roundg (p.size - j)
            case measure => omega
            case rel => exact ⟨j + 1, gk, by omega, .inl (by omega), by omega, by go_num, rfl, HL, hnext, by simpa using hs, (below_drewN hbl _).setCell (Nat.le_refl _) _⟩
          · -- the next shorter border
            have hd : decide (0 < gk) = true := decide_eq_true (by omega)
            obtain ⟨d, hLd, hdk, hcd⟩ := hT.cell (c := gk) (by omega) (by omega) (by omega)
            have HB := Kmp.bi_step hB hLd heq
            clear h0 heq
            go_wp2
            go_quiet (fail)
            go_wp2
            go_roundg d
            case measure => exact hdk
            case rel => exact ⟨by omega, rfl, HB, _, rfl⟩
    · go_wp2
      go_ret
      exact ⟨rfl, hT.done (by omega), hs, hbl⟩
end Go.Proofs.Qxb6605336a
