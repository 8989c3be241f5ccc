/-
  WALK for 'FnSearchAtScript': the law (5).
-/
import Derived.Test.Qxb6605336aSearchE
import Derived.Deep.RegionWith
namespace Go.Proofs.Qxb6605336a
open Go.RowKit Go.Deep Go.ChangeAt Go.WideShapes Go.ChangeShapes

theorem Only.cell {F : Nat} {w w' : World} (h : Only F w w') {a : Addr} (h1 : a.block < w.heap.size) (h2 : a.block ≠ F) : w'.cell? a = w.cell? a := World.cell?_of_block (w := w) (h.block _ h1 h2)

theorem AnsIs.same {a b : Bool} {Q : Prop} (h1 : a = true ↔ Q) (h2 : b = true ↔ Q) : (!(a == b)) = false := by
  have : a = true ↔ b = true := h1.trans h2.symm
  cases a <;> cases b <;> simp_all

/-- The last place asked at, ahead of the k-th ask. -/
def lastAt (f : Nat → Int) (k : Nat) : Nat := if k = 0 then 0 else (f (k - 1)).toNat
theorem lastAt_le {f : Nat → Int} {k : Nat} (h : ∀ j, 1 ≤ j → j < k + 1 → f (j - 1) ≤ f j) : lastAt f k ≤ (f k).toNat := by
  unfold lastAt
  by_cases h0 : k = 0
  · simp [h0]
  · rw [if_neg h0]
    have := h k (by omega) (by omega)
    omega

theorem St.fresh (p s : ByteArray) (w : World) (F : Nat) (hF : w.heap.size = F) : St p s (w.alloc (.cells #[.slice none 0 0, .int .i64 0, .int .i64 0] 40)) F 0 := by
  subst hF
  refine .inl ⟨rfl, World.rowIs_alloc w #[.slice none 0 0, .int .i64 0, .int .i64 0] 40 _ ?_⟩
  intro i hi
  match i, hi with
  | 0, _ => rfl
  | 1, _ => rfl
  | 2, _ => rfl

/-- An ask leaves the copied numbers as they were. -/
theorem row_kept {F C len : Nat} {w w' : World} {f : Nat → Value} (h : w.rowIs C 3 len f) (k : Only F w w') (hn : C ≠ F) : w'.rowIs C 3 len f := h.of_block (k.block C h.lt hn)

theorem Only.ofSame {F : Nat} {v w w' : World} (h : Only F v w') (e1 : v.os = w.os) (e2 : v.tape = w.tape) (e3 : v.output = w.output) (e4 : v.heap = w.heap) : Only F w w' :=
  ⟨h.os.trans e1, h.tape.trans e2, h.output.trans e3, by rw [← e4]; exact h.size, fun k hk hn => by rw [← e4] at hk; rw [h.block k hk hn, e4]⟩

theorem lastAt_succ (f : Nat → Int) (k : Nat) : lastAt f (k + 1) = (f k).toNat := by simp [lastAt]

theorem St.drewN {p s : ByteArray} {w : World} {F X : Nat} (h : St p s w F X) (n : Nat) : St p s (w.drewN n) F X := h

set_option maxRecDepth 100000 in
set_option maxHeartbeats 1000000 in
theorem law5_main (p s : ByteArray) (b off len cap : Nat) (f : Nat → Int) (w : World) (hp : p.size ≤ 65536) (hs : s.size ≤ 262144) (hl : len ≤ 65536) (h0 : 0 < len)
    (hc : ∀ i, i < len → w.cell? ⟨b, off + i, none⟩ = some (.int .i64 (f i))) (hb : b < w.heap.size) (hf : ∀ i, i < len → -9223372036854775808 ≤ f i ∧ f i ≤ 9223372036854775807) :
    Calls Try.prog 5 #[.string p, .string s, .slice (some ⟨b, off, none⟩) len cap] w fun e w' => e = .returned (.bool true) ∧ Below w.heap.size w w' := by
  have HC : Hid (∀ i, i < len → w.cell? ⟨b, off + i, none⟩ = some (.int .i64 (f i))) := hc
  have HF : Hid (∀ i, i < len → -9223372036854775808 ≤ f i ∧ f i ≤ 9223372036854775807) := hf
  clear hc hf
  go_enter Try.func5, Try.ntmps5
  go_wp2_with fail
  refine (bytes16 p s (some ⟨b, off, none⟩) len cap w (by unfold maxLen; omega) (by unfold maxLen; omega) (by unfold maxLen; omega)).mono ?_
  rintro e w1 ⟨⟨bb, rfl⟩, rfl⟩
  cases bb
  · go_wp2
    go_ret
    exact ⟨rfl, Below.refl _ _⟩
  go_wp2
  go_loopg [7] len (fun g iv wr => ∃ q : Nat, q < len ∧ g + q = len ∧ iv = .int .i64 ((q : Int) + 1) ∧ (∀ j, 1 ≤ j → j < q + 1 → f (j - 1) ≤ f j) ∧ ∃ nd, wr = w1.drewN nd)
  case atStart => exact ⟨0, h0, rfl, rfl, fun j a b => by omega, 0, rfl⟩
  case round =>
    obtain ⟨q, hq, hg, rfl, hsort, nd, rfl⟩ := hrel
    have HS : Hid (∀ j, 1 ≤ j → j < q + 1 → f (j - 1) ≤ f j) := hsort
    have HG : Hid (gk + q = len) := hg
    clear hsort hg
    by_cases hlt : q + 1 < len
    · have g1 := HC.out (q + 1) hlt
      have g2 := HC.out q hq
      have hw : IntKind.i64.wrap ((q : Int) + 1 - 1) = (q : Int) := by rw [IntWalk.i64_in _ (by omega)]; omega
      go_wp2
      go_quiet (fail)
      go_wp2
      · go_ret
        exact ⟨rfl, below_drewN (below_drewN (Below.refl _ _) _) _⟩
      · have hle : f q ≤ f (q + 1) := by assumption
        have hg := HG.out
        go_roundg (gk - 1)
        case measure => omega
        case rel =>
          refine ⟨q + 1, by omega, by omega, by go_num, fun j h1 h2 => ?_, _, rfl⟩
          by_cases hj : j = q + 1
          · subst hj; exact hle
          · exact HS.out j h1 (by omega)
    · have HS2 : Hid (∀ j, 1 ≤ j → j < len → f (j - 1) ≤ f j) := fun j h1 h2 => HS.out j h1 (by omega)
      go_wp2_with fail
      refine (clone17_some b off len cap f (w1.drewN nd) (by omega) (by exact HC.out) (by exact hb)).mono ?_
      rintro e w2 ⟨rfl, hr0, hsz0, hbl0⟩
      have hr : w2.rowIs w1.heap.size 3 len (fun i => .int .i64 (f i)) := hr0
      have hsz : w2.heap.size = w1.heap.size + 1 := hsz0
      have hbl : Below w1.heap.size w1 w2 := (below_drewN (Below.refl _ _) _).trans hbl0
      clear hr0 hsz0 hbl0 HS HG hq hlt
      go_wp2
      go_loopg [9] len (fun g iv wr => ∃ k : Nat, k ≤ len ∧ g + k = len ∧ iv = .int .i64 k ∧ wr.rowIs w1.heap.size 3 len (fun i => .int .i64 (f i)) ∧ St p s wr (w1.heap.size + 1) (lastAt f k) ∧ Below w1.heap.size w1 wr)
      case atStart => exact ⟨0, Nat.zero_le _, rfl, rfl, hr.alloc _, St.fresh p s w2 _ hsz, hbl.alloc (by omega) _⟩
      case round =>
        clear hr hsz hbl
        obtain ⟨k, hk, hg, rfl, hr, hS, hbl⟩ := hrel
        have HG : Hid (gk + k = len) := hg
        clear hg
        by_cases hlt : k < len
        · have g1 := hr.cell hlt
          have hlast := lastAt_le (f := f) (k := k) (fun j h1 h2 => HS2.out j h1 (by omega))
          have hrange := HF.out k hlt
          go_upto_region 19 with fail
          go_cut [62] (fun v wc => v = .bool false ∧ wc.rowIs w1.heap.size 3 len (fun i => .int .i64 (f i)) ∧ St p s wc (w1.heap.size + 1) (f k).toNat ∧ Below w1.heap.size w1 wc)
          case first =>
            go_region_with (first | (go_at_call 18; refine (ask18 p s (w1.heap.size + 1) (lastAt f k) (f k) _ (by omega) (by omega) hrange hlast (by exact hS)).mono ?_; rintro e w3 ⟨⟨b1, rfl, hb1⟩, hS3, hO3⟩; have g3 := (hO3.cell (a := ⟨w1.heap.size, k, none⟩) hr.lt (by simp)).trans g1) | (go_at_call 19; refine (occ19 p s (f k) _ (by omega) (by omega) hrange).mono ?_; rintro e w4 ⟨⟨b2, rfl, hb2⟩, nd2, rfl⟩))
            all_goals
              have hO : Only (w1.heap.size + 1) wr w3 := Only.ofSame hO3 rfl rfl rfl rfl
              have hb12 := AnsIs.same hb1 hb2
              have hrk := row_kept hr hO (Nat.ne_of_lt (Nat.lt_succ_self _))
              go_wp2_with fail
              go_meet
              exact ⟨congrArg Value.bool hb12, hrk, hS3, below_drewN (Only.toBelow hbl hO (by omega) (Nat.le_refl _)) _⟩
          case rest =>
            clear hr hS hbl g1
            obtain ⟨rfl, hr, hS, hbl⟩ := hcut
            go_wp2
            have hg := HG.out
            go_roundg (gk - 1)
            case measure => omega
            case rel => exact ⟨k + 1, by omega, by omega, by go_num, hr, by rw [lastAt_succ]; exact hS, hbl⟩
        · go_wp2
          go_ret
          exact ⟨rfl, hbl⟩

set_option maxRecDepth 100000 in
theorem law5_big (p s : ByteArray) (ad : Option Addr) (len cap : Nat) (w : World) (w0 : p.size ≤ maxLen) (w1 : s.size ≤ maxLen) (w2 : len ≤ maxLen) (hbig : ¬ (p.size ≤ 65536 ∧ s.size ≤ 262144 ∧ len ≤ 65536)) :
    Calls Try.prog 5 #[.string p, .string s, .slice ad len cap] w fun e w' => e = .returned (.bool true) ∧ Below w.heap.size w w' := by
  have hb := bytes16 p s ad len cap w w0 w1 w2
  unfold maxLen at w0 w1 w2
  by_cases h1 : p.size ≤ 65536
  · by_cases h2 : s.size ≤ 262144
    · have h3 : (65536 : Int) < (len : Int) := by omega
      go_enter Try.func5, Try.ntmps5
      go_wp2_with fail
      refine hb.mono ?_
      rintro e w' ⟨⟨bb, rfl⟩, rfl⟩
      cases bb <;> (go_wp2; go_ret; exact ⟨rfl, Below.refl _ _⟩)
    · go_enter Try.func5, Try.ntmps5
      go_wp2_with fail
      refine hb.mono ?_
      rintro e w' ⟨⟨bb, rfl⟩, rfl⟩
      cases bb <;> (go_wp2; go_ret; exact ⟨rfl, Below.refl _ _⟩)
  · go_enter Try.func5, Try.ntmps5
    go_wp2_with fail
    refine hb.mono ?_
    rintro e w' ⟨⟨bb, rfl⟩, rfl⟩
    cases bb <;> (go_wp2; go_ret; exact ⟨rfl, Below.refl _ _⟩)

set_option maxRecDepth 100000 in
theorem law5_empty (p s : ByteArray) (ad : Option Addr) (cap : Nat) (w : World) (hp : p.size ≤ 65536) (hs : s.size ≤ 262144) :
    Calls Try.prog 5 #[.string p, .string s, .slice ad 0 cap] w fun e w' => e = .returned (.bool true) ∧ Below w.heap.size w w' := by
  have hb := bytes16 p s ad 0 cap w (by unfold maxLen; omega) (by unfold maxLen; omega) (Nat.zero_le _)
  go_enter Try.func5, Try.ntmps5
  go_wp2_with fail
  refine hb.mono ?_
  rintro e w1 ⟨⟨bb, rfl⟩, rfl⟩
  cases bb
  · go_wp2
    go_ret
    exact ⟨rfl, Below.refl _ _⟩
  go_wp2_with fail
  refine wp_loop_rounds 1 ?_
  rw [rounds_succ]
  go_wp2_with fail
  refine (clone17 ad 0 cap (fun _ => 0) w1 (by omega) ⟨fun _ => rfl, fun x _ i hi => absurd hi (Nat.not_lt_zero _)⟩).mono ?_
  rintro e w2 ⟨ad', rfl, _, _, _, hbl⟩
  go_wp2_with fail
  refine wp_loop_rounds 1 ?_
  rw [rounds_succ]
  go_wp2
  go_ret
  exact ⟨rfl, hbl.alloc hbl.size _⟩

/-- THE LAW's WALK, for every input. -/
theorem law5 (p s : ByteArray) (ad : Option Addr) (len cap : Nat) (f : Nat → Int) (w : World) (w0 : p.size ≤ maxLen) (w1 : s.size ≤ maxLen) (w2 : len ≤ maxLen) (hE : Elems w ad len (fun i => .int .i64 (f i)))
    (hf : ∀ i, i < len → -9223372036854775808 ≤ f i ∧ f i ≤ 9223372036854775807) :
    Calls Try.prog 5 #[.string p, .string s, .slice ad len cap] w fun e w' => e = .returned (.bool true) ∧ Below w.heap.size w w' := by
  by_cases hsm : p.size ≤ 65536 ∧ s.size ≤ 262144 ∧ len ≤ 65536
  · obtain ⟨hp, hs, hl⟩ := hsm
    by_cases h0 : 0 < len
    · cases ad with
      | none => have := hE.1 rfl; omega
      | some x =>
        obtain ⟨b, off, rfl, hb, hc⟩ := elems_addr (hE.2 x rfl) h0
        exact law5_main p s b off len cap f w hp hs hl h0 hc hb hf
    · have e0 : len = 0 := by omega
      subst e0
      exact law5_empty p s ad cap w hp hs
  · exact law5_big p s ad len cap w w0 w1 w2 hsm

end Go.Proofs.Qxb6605336a
