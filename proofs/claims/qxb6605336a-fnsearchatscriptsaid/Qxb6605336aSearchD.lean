/-
  WALK for 'FnSearchAtScript': one ask of the search (33, and 18, which passes on to it).
-/
import Derived.Test.Qxb6605336aSearchC
import Derived.Deep.DeepCutAuto
import Derived.RegionTactic
namespace Go.Proofs.Qxb6605336a
open Go.RowKit Go.Deep Go.ChangeAt Go.WideShapes Go.ChangeShapes

/-- All blocks that were there are as they were, but for F. -/
structure Only (F : Nat) (w w' : World) : Prop where
  os : w'.os = w.os
  tape : w'.tape = w.tape
  output : w'.output = w.output
  size : w.heap.size ≤ w'.heap.size
  block : ∀ k, k < w.heap.size → k ≠ F → w'.heap[k]? = w.heap[k]?

theorem Only.refl (F : Nat) (w : World) : Only F w w := ⟨rfl, rfl, rfl, Nat.le_refl _, fun _ _ _ => rfl⟩
theorem Only.trans {F : Nat} {a b c : World} (h : Only F a b) (k : Only F b c) : Only F a c :=
  ⟨k.os.trans h.os, k.tape.trans h.tape, k.output.trans h.output, Nat.le_trans h.size k.size, fun i hi hn => (k.block i (Nat.lt_of_lt_of_le hi h.size) hn).trans (h.block i hi hn)⟩
theorem Only.drewN {F : Nat} {a b : World} (h : Only F a b) (n : Nat) : Only F a (b.drewN n) := ⟨h.os, h.tape, h.output, h.size, h.block⟩
theorem Only.setCell {F : Nat} {a b : World} (h : Only F a b) {p : Addr} (hp : p.block = F) (u : Value) : Only F a (b.setCell p u) :=
  h.trans ⟨rfl, rfl, rfl, by simp [World.setCell], fun k _ hn => Below.heap_setCell _ _ _ _ (by omega)⟩
theorem Only.below {F : Nat} {a b c : World} (h : Only F a b) (k : Below b.heap.size b c) : Only F a c :=
  h.trans ⟨k.os, k.tape, k.output, k.size, fun i hi _ => k.block i hi⟩
theorem Only.toBelow {F B : Nat} {a b c : World} (h : Below B a b) (k : Only F b c) (hF : B ≤ F) (hB : B ≤ a.heap.size) : Below B a c :=
  h.trans ⟨k.os, k.tape, k.output, k.size, fun i hi => k.block i (by have := h.size; omega) (by omega)⟩

/-- The search's three cells. -/
def fld (v0 : Value) (read n : Nat) : Nat → Value
  | 0 => v0
  | 1 => .int .i64 read
  | _ => .int .i64 n

/-- The search in block F is ready: its table lies in block B. -/
def Rdy (p : ByteArray) (w : World) (F B read n : Nat) : Prop :=
  B ≠ F ∧ TabAt p w B p.size ∧ w.rowIs F 40 3 (fld (.slice (some ⟨B, 0, none⟩) (p.size + 1) (p.size + 1)) read n)

theorem TabAt.other {p : ByteArray} {w : World} {B j : Nat} (h : TabAt p w B j) {a : Addr} (ha : B ≠ a.block) (v : Value) : TabAt p (w.setCell a v) B j := by
  obtain ⟨f, ht, hr⟩ := h
  exact ⟨f, ht, hr.setOther ha v⟩

namespace Rdy
variable {p : ByteArray} {w : World} {F B read n : Nat}
theorem c0 (h : Rdy p w F B read n) : w.cell? ⟨F, 0, none⟩ = some (.slice (some ⟨B, 0, none⟩) (p.size + 1) (p.size + 1)) := h.2.2.cell (by omega)
theorem c1 (h : Rdy p w F B read n) : w.cell? ⟨F, 1, none⟩ = some (.int .i64 (read : Int)) := h.2.2.cell (i := 1) (by omega)
theorem c2 (h : Rdy p w F B read n) : w.cell? ⟨F, 2, none⟩ = some (.int .i64 (n : Int)) := h.2.2.cell (i := 2) (by omega)
theorem fz (h : Rdy p w F B read n) (i : Nat) : w.frozen? ⟨F, i, none⟩ = false := h.2.2.frozen i
theorem setRead (h : Rdy p w F B read n) (r : Nat) : Rdy p (w.setCell ⟨F, 1, none⟩ (.int .i64 (r : Int))) F B r n := by
  refine ⟨h.1, h.2.1.other h.1 _, (h.2.2.set 1 _).congr ?_⟩
  intro i hi
  match i, hi with
  | 0, _ => simp [fld]
  | 1, _ => simp [fld]
  | 2, _ => simp [fld]
theorem setN (h : Rdy p w F B read n) (r : Nat) : Rdy p (w.setCell ⟨F, 2, none⟩ (.int .i64 (r : Int))) F B read r := by
  refine ⟨h.1, h.2.1.other h.1 _, (h.2.2.set 2 _).congr ?_⟩
  intro i hi
  match i, hi with
  | 0, _ => simp [fld]
  | 1, _ => simp [fld]
  | 2, _ => simp [fld]
theorem drewN (h : Rdy p w F B read n) (k : Nat) : Rdy p (w.drewN k) F B read n := h
end Rdy

/-- What is known of the search between two asks, the last (or 0) at X. -/
def St (p s : ByteArray) (w : World) (F X : Nat) : Prop :=
  (X = 0 ∧ w.rowIs F 40 3 (fld (.slice none 0 0) 0 0)) ∨
  ∃ B read n, Rdy p w F B read n ∧ Kmp.Inv (bt p) (bt s) p.size s.size X read n ∧ read ≤ 9223372036854775807

/-- The first statement: the table is made where it was not. -/
theorem ready_of_fresh {p : ByteArray} {w w1 : World} {F : Nat} (h : w.rowIs F 40 3 (fld (.slice none 0 0) 0 0)) (hT : TabAt p w1 w.heap.size p.size) (hb : Below w.heap.size w w1) :
    Rdy p (w1.setCell ⟨F, 0, none⟩ (.slice (some ⟨w.heap.size, 0, none⟩) (p.size + 1) (p.size + 1))) F w.heap.size 0 0 := by
  have hlt := h.lt
  have hne : w.heap.size ≠ F := by omega
  refine ⟨hne, hT.other hne _, ((h.of_block (hb.block F hlt)).set 0 _).congr ?_⟩
  intro i hi
  match i, hi with
  | 0, _ => simp [fld]
  | 1, _ => simp [fld]
  | 2, _ => simp [fld]

/-- Ahead of the first loop. -/
def Mid (p s : ByteArray) (X read n : Nat) : Prop := Kmp.Drop (bt p) (bt s) p.size s.size X read n ∨ Kmp.Inv (bt p) (bt s) p.size s.size X read n
theorem Mid.start {p s : ByteArray} {X0 X read n : Nat} (h : Kmp.Inv (bt p) (bt s) p.size s.size X0 read n) (h0 : X0 ≤ X) (hr : X < read) : Mid p s X read n := .inl (Kmp.drop_start h h0 hr)
theorem Mid.step {p s : ByteArray} {X read n d : Nat} (h : Mid p s X read n) (hlt : read < X + n) (hd : Kmp.LBord (bt p) n d) : Mid p s X read d := by
  rcases h with h | h
  · exact .inl (Kmp.drop_step h hlt hd)
  · have := h.low; omega
theorem Mid.pos {p s : ByteArray} {X read n : Nat} (h : Mid p s X read n) (hlt : read < X + n) : 0 < n ∧ n ≤ p.size := by
  rcases h with h | h
  · have := h.past; have := h.nm; omega
  · have := h.low; omega
theorem Mid.done {p s : ByteArray} {X read n : Nat} (h : Mid p s X read n) (hge : X + n ≤ read) : Kmp.Inv (bt p) (bt s) p.size s.size X read n := by
  rcases h with h | h
  · exact Kmp.drop_done h hge
  · exact h
theorem Mid.le {p s : ByteArray} {X read n : Nat} (h : Mid p s X read n) : n ≤ p.size := by
  rcases h with h | h
  · exact h.nm
  · exact h.nm

theorem occ_of {p s : ByteArray} {X read n : Nat} (hI : Kmp.Inv (bt p) (bt s) p.size s.size X read n) (hend : ¬ (read = X + n ∧ n < p.size ∧ read < s.size)) : (read = X + n ∧ n = p.size) ↔ OccAt p s (X : Int) := by
  rw [Kmp.inv_answer hI hend]
  unfold OccAt
  rw [Int.toNat_natCast]
  exact ⟨fun h => ⟨by omega, h⟩, fun h => h.2⟩

set_option maxRecDepth 100000 in
set_option maxHeartbeats 1000000 in
theorem at33 (p s : ByteArray) (F X X0 : Nat) (w : World) (hp : p.size ≤ 1048576) (hs : s.size ≤ 1048576) (hX : X ≤ 9223372036854775807) (hX0 : X0 ≤ X) (hS : St p s w F X0) :
    Calls Try.prog 33 #[.pointer (some ⟨F, 0, none⟩), .string p, .string s, .int .i64 X] w fun e w' => AnsIs e (OccAt p s X) ∧ St p s w' F X ∧ Only F w w' := by
  obtain ⟨ad, l, c, hc0, hf0⟩ : ∃ ad l c, w.cell? ⟨F, 0, none⟩ = some (.slice ad l c) ∧ w.frozen? ⟨F, 0, none⟩ = false := by
    rcases hS with ⟨_, hr⟩ | ⟨B, read, n, hR, _, _⟩
    · exact ⟨none, 0, 0, hr.cell (by omega), hr.frozen 0⟩
    · exact ⟨_, _, _, hR.c0, hR.fz 0⟩
  have he := fun w => Lib.run_eql_slice_nil (P := Try.prog) w 36 3 ad l c 0 0 Try.underlying36
  go_enter Try.func33, Try.ntmps33
  go_upto_if 14 with fail
  go_cut [] (fun wc => ∃ B read n, Rdy p wc F B read n ∧ Kmp.Inv (bt p) (bt s) p.size s.size X0 read n ∧ read ≤ 9223372036854775807 ∧ Only F w wc)
  case first =>
    rcases hS with ⟨h0, hr⟩ | ⟨B, read, n, hR, hI, hb⟩
    · have e0 : w.cell? ⟨F, 0, none⟩ = some (.slice none 0 0) := hr.cell (by omega)
      rw [hc0] at e0
      simp only [Option.some.injEq, Value.slice.injEq] at e0
      obtain ⟨rfl, rfl, rfl⟩ := e0
      have hlt := hr.lt
      go_wp2_with fail
      refine (borders40 p _ hp).mono ?_
      rintro e w1 ⟨rfl, hT, hsz, hb1⟩
      have k0 := (hb1.cell (p := ⟨F, 0, none⟩) hlt).trans hc0
      have k1 := (hb1.frozen (p := ⟨F, 0, none⟩) hlt).trans hf0
      go_wp2
      go_meet
      exact ⟨w.heap.size, 0, 0, ready_of_fresh hr hT hb1, by rw [h0]; exact Kmp.inv_fresh, by omega, ((Only.refl F w).below hb1).setCell rfl _⟩
    · have e0 := hR.c0
      rw [hc0] at e0
      simp only [Option.some.injEq, Value.slice.injEq] at e0
      obtain ⟨rfl, rfl, rfl⟩ := e0
      go_wp2
      go_meet
      exact ⟨B, read, n, hR, hI, hb, Only.refl F w⟩
  case rest =>
    obtain ⟨B, read, n, hR, hI, hb, hO⟩ := hcut
    clear hc0 hf0 he hS
    have c1 := hR.c1
    have f1 := hR.fz 1
    have c2 := hR.c2
    have f2 := hR.fz 2
    go_upto_if 25 with fail
    go_cut [] (fun wd => ∃ read n, Rdy p wd F B read n ∧ Mid p s X read n ∧ read ≤ 9223372036854775807 ∧ Only F w wd)
    case first =>
      by_cases hle : read ≤ X
      · go_wp2
        go_meet
        exact ⟨X, 0, (hR.setRead X).setN 0, .inr Kmp.inv_jump, hX, (hO.setCell rfl _).setCell rfl _⟩
      · go_wp2
        go_meet
        exact ⟨read, n, hR, Mid.start hI hX0 (by omega), hb, hO⟩
    case rest =>
      clear hR hI hb hO c1 f1 c2 f2
      obtain ⟨read, n, hR, hM, hb, hO⟩ := hcut
      go_wp2
      go_loopg [] n (fun g wr => Rdy p wr F B read g ∧ Mid p s X read g ∧ Only F w wr)
      case atStart => exact ⟨hR, hM, hO⟩
      case round =>
        clear hR hM hO
        obtain ⟨hR, hM, hO⟩ := hrel
        have c0 := hR.c0
        have c1 := hR.c1
        have c2 := hR.c2
        have f2 := hR.fz 2
        have hn := hM.le
        have hw : IntKind.i64.wrap ((read : Int) - (gk : Int)) = (read : Int) - (gk : Int) := IntWalk.i64_in _ (by omega)
        by_cases hlt : read < X + gk
        · have hd : decide ((read : Int) - (gk : Int) < (X : Int)) = true := decide_eq_true (by omega)
          obtain ⟨g1, g2⟩ := hM.pos hlt
          obtain ⟨d, hLd, hdk, hcd⟩ := hR.2.1.cell (c := gk) g1 g2 (Nat.le_refl _)
          have HM := hM.step hlt hLd
          clear hM
          go_wp2
          go_quiet (fail)
          go_wp2
          go_region
          go_wp2
          go_roundg d
          case measure => exact hdk
          case rel => exact ⟨(hR.drewN _).setN d, HM, (hO.drewN _).setCell rfl _⟩
        · have hd : decide ((read : Int) - (gk : Int) < (X : Int)) = false := decide_eq_false (by omega)
          have hI := hM.done (by omega)
          clear hM
          go_wp2
          go_quiet (fail)
          go_wp2
          clear hd hw c0 c1 c2 f2 hlt hn
          go_loopg [] (s.size - read) (fun g wr => ∃ read n, g = s.size - read ∧ Rdy p wr F B read n ∧ Kmp.Inv (bt p) (bt s) p.size s.size X read n ∧ read ≤ 9223372036854775807 ∧ Only F w wr)
          case atStart => exact ⟨read, gk, rfl, hR, hI, hb, hO.drewN _⟩
          case round =>
            clear hR hI hb hO
            obtain ⟨read, n, rfl, hR, hI, hb, hO⟩ := hrel
            have c0 := hR.c0
            have c1 := hR.c1
            have c2 := hR.c2
            have f1 := hR.fz 1
            have f2 := hR.fz 2
            have hn := hI.nm
            have hlow := hI.low
            have hw : IntKind.i64.wrap ((read : Int) - (n : Int)) = (read : Int) - (n : Int) := IntWalk.i64_in _ (by omega)
            by_cases h1 : read = X + n
            · have e1 : ((read : Int) - (n : Int) == (X : Int)) = true := by rw [beq_iff_eq]; omega
              by_cases h2 : n < p.size
              · by_cases h3 : read < s.size
                · have HT := Kmp.take_start hI h1 h2 h3
                  have i3 := run_idx s (read : Int) read rfl h3
                  clear h1 hI
                  go_wp2
                  go_quiet (fail)
                  go_wp2
                  clear e1 hw c0 c1 c2 f1 f2 hlow hn h2
                  go_loopg [] n (fun g wr => Rdy p wr F B read g ∧ Kmp.Take (bt p) (bt s) p.size s.size X read g ∧ Only F w wr)
                  case atStart => exact ⟨hR, HT, hO.drewN _⟩
                  case round =>
                    clear hR hO HT
                    obtain ⟨hR, hT, hO⟩ := hrel
                    have c0 := hR.c0
                    have c1 := hR.c1
                    have c2 := hR.c2
                    have f1 := hR.fz 1
                    have f2 := hR.fz 2
                    have hn := hT.nm
                    have i4 := run_idx p (gk : Int) gk rfl hn
                    by_cases heq : bt p gk = bt s read
                    · have q1 : (bt p gk == bt s read) = true := by rw [beq_iff_eq]; exact heq
                      have q2 : (bt p gk != bt s read) = false := by rw [bne_eq_false_iff_eq]; exact heq
                      have HI := Kmp.take_hit hT heq
                      clear heq hT
                      by_cases h0 : gk = 0
                      · have hd : decide (0 < gk) = false := decide_eq_false (by omega)
                        clear h0
                        go_wp2
                        go_roundg (s.size - (read + 1))
                        case measure => omega
                        case rel => exact ⟨read + 1, gk + 1, rfl, (hR.setN (gk + 1)).setRead (read + 1), HI, by omega, (hO.setCell rfl _).setCell rfl _⟩
                      · have hd : decide (0 < gk) = true := decide_eq_true (by omega)
                        clear h0
                        go_wp2
                        go_roundg (s.size - (read + 1))
                        case measure => omega
                        case rel => exact ⟨read + 1, gk + 1, rfl, (hR.setN (gk + 1)).setRead (read + 1), HI, by omega, (hO.setCell rfl _).setCell rfl _⟩
                    · have q1 : (bt p gk == bt s read) = false := by rw [beq_eq_false_iff_ne]; exact heq
                      have q2 : (bt p gk != bt s read) = true := by rw [bne_iff_ne]; exact heq
                      by_cases h0 : gk = 0
                      · have hd : decide (0 < gk) = false := decide_eq_false (by omega)
                        have HI : Kmp.Inv (bt p) (bt s) p.size s.size X (read + 1) gk := by rw [h0]; rw [h0] at hT heq; exact Kmp.take_miss hT heq
                        clear h0 hT heq
                        go_wp2
                        go_roundg (s.size - (read + 1))
                        case measure => omega
                        case rel => exact ⟨read + 1, gk, rfl, hR.setRead (read + 1), HI, by omega, hO.setCell rfl _⟩
                      · have hd : decide (0 < gk) = true := decide_eq_true (by omega)
                        obtain ⟨d, hLd, hdk, hcd⟩ := hR.2.1.cell (c := gk) (by omega) (by omega) (Nat.le_refl _)
                        have HM := Kmp.take_step hT hLd heq
                        clear hT heq h0
                        go_wp2
                        go_region
                        go_wp2
                        go_roundg d
                        case measure => exact hdk
                        case rel => exact ⟨(hR.drewN _).setN d, HM, (hO.drewN _).setCell rfl _⟩
                · have A := occ_of hI (by omega)
                  have e2 : ((n : Int) == (p.size : Int)) = false := by rw [beq_eq_false_iff_ne]; omega
                  have e3 : decide (read < s.size) = false := decide_eq_false h3
                  clear h1
                  go_wp2
                  go_quiet (fail)
                  go_wp2
                  go_quiet (fail)
                  go_wp2
                  go_ret
                  exact ⟨AnsIs.no rfl (by rw [← A]; omega), .inr ⟨B, read, n, hR, hI, hb⟩, (hO.drewN _).drewN _⟩
              · have A := occ_of hI (by omega)
                have e2 : ((n : Int) == (p.size : Int)) = true := by rw [beq_iff_eq]; omega
                have e3 : decide (n < p.size) = false := decide_eq_false h2
                have HA : Hid (read = X + n ∧ n = p.size) := ⟨h1, by omega⟩
                clear h1
                go_wp2
                go_quiet (fail)
                go_wp2
                go_quiet (fail)
                go_wp2
                go_ret
                exact ⟨AnsIs.yes rfl (by rw [← A]; exact HA.out), .inr ⟨B, read, n, hR, hI, hb⟩, (hO.drewN _).drewN _⟩
            · have A := occ_of hI (by omega)
              have e1 : ((read : Int) - (n : Int) == (X : Int)) = false := by rw [beq_eq_false_iff_ne]; omega
              go_wp2
              go_quiet (fail)
              go_wp2
              go_quiet (fail)
              go_wp2
              go_ret
              exact ⟨AnsIs.no rfl (by rw [← A]; omega), .inr ⟨B, read, n, hR, hI, hb⟩, (hO.drewN _).drewN _⟩
end Go.Proofs.Qxb6605336a
