/-
  WALKS for the round trip: the words and the bytes spelt out (14, 15).
-/
import Derived.Test.Qxb6605336aRtA
namespace Go.Proofs.Qxb6605336a
open Go.RowKit Go.Deep Go.ChangeAt Go.WideShapes Go.ChangeShapes
open Rg (hexOk hexD digB)

/-- A buffer of the call's own: block g, room for cap bytes, xs written. -/
def Buf (w : World) (g cap : Nat) (xs : List Int) : Prop := w.ownsRow 0 5 1 (.slice (some ⟨g, 0, none⟩) xs.length cap) xs.length (xs.map (Value.int .u8))

theorem Buf.kept {w w' : World} {g cap : Nat} {xs : List Int} (h : Buf w g cap xs) (e : w'.heap[g]? = w.heap[g]?) : Buf w' g cap xs := by
  obtain ⟨h1, h2⟩ := h
  refine ⟨h1, ?_⟩
  rcases h2 with ⟨h2, _⟩ | ⟨g', cap', cur, hv, hg, hh, r⟩
  · cases h2
  · obtain ⟨⟩ := hv
    exact .inr ⟨g, cap, cur, rfl, hg, by rw [e]; exact hh, r⟩
theorem Buf.lt {w : World} {g cap : Nat} {xs : List Int} (h : Buf w g cap xs) : g < w.heap.size := by
  obtain ⟨h1, h2⟩ := h
  rcases h2 with ⟨h2, _⟩ | ⟨g', cap', cur, hv, hg, hh, r⟩
  · cases h2
  · obtain ⟨⟩ := hv
    exact (Array.getElem?_eq_some_iff.1 hh).1
theorem Buf.alloc {w : World} {g cap : Nat} {xs : List Int} (h : Buf w g cap xs) (o : Obj) : Buf (w.alloc o) g cap xs := h.kept (Below.heap_alloc _ _ _ h.lt)
theorem Buf.below {w w' : World} {g cap : Nat} {xs : List Int} (h : Buf w g cap xs) (hb : Below w.heap.size w w') : Buf w' g cap xs := h.kept (hb.block g h.lt)
theorem Buf.other {w w' : World} {g g' cap : Nat} {xs : List Int} (h : Buf w g cap xs) (hg : w.grownBy w' (some g')) (hn : g ≠ g') : Buf w' g cap xs := h.kept (hg.block g h.lt (by simpa using hn))

/-- 'append(buf, c)' where there is room: as a law for the walk. -/
theorem app1 (w : World) {ops : Array Oper} {rest : List Oper} {o : Oper} {a : Act} {Q : Exit → Act → World → Prop}
    (hgd : o.guard = none) (s x : Operand) (hop : o.op = Op.call { callee := Callee.builtin Builtin.append, args := #[s, x], argTypes := #[22, 22] })
    (g cap n : Nat) (xs : List Int) (hn : xs.length = n) (hs : a.eval s = .slice (some ⟨g, 0, none⟩) n cap) (hB : Buf w g cap xs) (b : Nat) (c : Int) (hx : a.eval x = .slice (some ⟨b, 0, none⟩) 1 1) (hc : w.cell? ⟨b, 0, none⟩ = some (.int .u8 c)) (hroom : n + 1 ≤ cap)
    (hK : ∀ w', Buf w' g cap (xs ++ [c]) → w.grownBy w' (some g) → wpList Try.prog ops Q rest (a.put o.dst (.slice (some ⟨g, 0, none⟩) (n + 1) cap)) w') :
    wpList Try.prog ops Q (o :: rest) a w := by
  subst hn
  obtain ⟨i0, hi, hz0, hz1, hz2⟩ := info_parts Try.info5
  refine wpList_append_fits w hgd s x 22 hop 0 5 i0 1 Try.underlying22 hi hz1 g xs.length cap (xs.map (Value.int .u8)) hs hB ⟨b, 0, none⟩ 1 1 [.int .u8 c] hx rfl ?_ ?_ hroom ?_
  · intro j u hj
    match j, hj with
    | 0, hj => simp at hj; subst hj; simpa [Addr.add] using hc
  · intro u hu
    simp at hu
    subst hu
    rfl
  · intro w' h1 h2
    refine hK w' ?_ h2
    unfold Buf
    simpa using h1

/-! ### 14: a word in hex -/
/-- Digit k of W. -/
def dgt (W : Int) (k : Nat) : Int := W / 16 ^ k % 16
/-- The last k digits; st: has a digit been written? -/
def hexG (W : Int) (up : Bool) : Nat → Bool → List Int
  | 0, _ => []
  | k + 1, st => if st = true ∨ dgt W k ≠ 0 ∨ k = 0 then hexC (dgt W k) up :: hexG W up k true else hexG W up k false

theorem hexG_length (W : Int) (up : Bool) (k : Nat) (st : Bool) : (hexG W up k st).length ≤ k := by
  induction k generalizing st with
  | zero => simp [hexG]
  | succ k ih =>
    simp only [hexG]
    split
    · simp; exact ih _
    · have := ih false; omega

theorem hexG_write (W : Int) (up : Bool) (k : Nat) (st : Bool) (h : st = true ∨ dgt W k ≠ 0 ∨ k = 0) : hexG W up (k + 1) st = hexC (dgt W k) up :: hexG W up k true := by
  simp only [hexG]; rw [if_pos h]
theorem hexG_skip (W : Int) (up : Bool) (k : Nat) (h : dgt W k = 0) (hk : k ≠ 0) : hexG W up (k + 1) false = hexG W up k false := by
  simp only [hexG]; rw [if_neg (by simp [h, hk])]
theorem dgt0 (W : Int) : dgt W 0 = W % 16 := by simp [dgt]
theorem dgt1 (W : Int) : dgt W 1 = W / 16 % 16 := by simp [dgt]
theorem dgt2 (W : Int) : dgt W 2 = W / 256 % 16 := by simp [dgt]
theorem dgt3 (W : Int) : dgt W 3 = W / 4096 % 16 := by simp [dgt]

theorem grown_alloc (w : World) (o : Obj) (row : Option Nat) : w.grownBy (w.alloc o) row := ⟨rfl, rfl, rfl, by simp, fun k hk _ => Below.heap_alloc _ _ _ hk⟩
theorem grown_trans {a b c : World} {row : Option Nat} (h : a.grownBy b row) (k : b.grownBy c row) : a.grownBy c row :=
  ⟨k.os.trans h.os, k.tape.trans h.tape, k.output.trans h.output, Nat.le_trans h.size k.size, fun i hi hn => (k.block i (Nat.lt_of_lt_of_le hi h.size) hn).trans (h.block i hi hn)⟩

set_option maxHeartbeats 1000000 in
theorem hex14 (g cap : Nat) (xs : List Int) (W : Int) (up zeros : Bool) (w : World) (hB : Buf w g cap xs) (h0 : 0 ≤ W) (h1 : W ≤ 65535) (hroom : xs.length + 4 ≤ cap) :
    Calls Try.prog 14 #[.slice (some ⟨g, 0, none⟩) xs.length cap, .int .u16 W, .bool up, .bool zeros] w fun e w' =>
      e = .returned (.slice (some ⟨g, 0, none⟩) (xs ++ hexG W up 4 zeros).length cap) ∧ Buf w' g cap (xs ++ hexG W up 4 zeros) ∧ w.grownBy w' (some g) := by
  obtain ⟨T, hT⟩ : ∃ T, xs ++ hexG W up 4 zeros = T := ⟨_, rfl⟩
  rw [hT]
  have HT : Hid (xs ++ hexG W up 4 zeros = T) := hT
  clear hT
  go_enter Try.func14, Try.ntmps14
  go_wp2
  go_loopg [0, 9, 10] 4 (fun k bv stv shv wr => ∃ (st : Bool) (ys : List Int), k ≤ 4 ∧ shv = .int .i64 (4 * (k : Int) - 4) ∧ stv = .bool st ∧ bv = .slice (some ⟨g, 0, none⟩) ys.length cap ∧ Buf wr g cap ys ∧ Hid (ys ++ hexG W up k st = T) ∧ ys.length + k ≤ cap ∧ w.grownBy wr (some g))
  case atStart => exact ⟨zeros, xs, by omega, by go_num, rfl, rfl, hB, HT, hroom, World.grownBy.refl _ _⟩
  case round =>
    obtain ⟨st, ys, hk, rfl, rfl, rfl, hBy, HY, hr, hgr⟩ := hrel
    have hk5 : gk = 0 ∨ gk = 1 ∨ gk = 2 ∨ gk = 3 ∨ gk = 4 := by omega
    rcases hk5 with rfl | rfl | rfl | rfl | rfl
    · have hTe : T = ys := by rw [← HY.out]; simp [hexG]
      subst hTe
      clear HY
      go_wp2
      go_ret
      exact ⟨rfl, hBy, hgr⟩
    · by_cases hd : W % 16 = 0
      · have q1 : (W % 16 != 0) = false := by rw [bne_eq_false_iff_eq]; exact hd
        have HD : Hid (W % 16 = 0) := hd
        clear hd
        cases st
        · have HW : Hid (ys ++ hexG W up 1 false = (ys ++ [hexC (W % 16) up]) ++ hexG W up 0 true) := by
            rw [Hid, hexG_write W up 0 false (by exact .inr (.inr rfl)), dgt0, List.append_assoc]; rfl
          have HY2 : Hid ((ys ++ [hexC (W % 16) up]) ++ hexG W up 0 true = T) := by rw [Hid, ← HW.out]; exact HY.out
          clear HW HY
          go_wp2_with (first | (go_at_call 32; refine (char32 _ up _ (by omega) (by omega)).mono ?_; rintro e w' ⟨rfl, rfl⟩) | (at_builtin; refine app1 _ rfl (.tmp 30) (.tmp 34) rfl g cap ys.length ys rfl rfl (hBy.alloc _) w'.heap.size (hexC (W % 16) up) rfl (cell_box _ _ 5 0 _ rfl) (by omega) ?_; intro w2 hB2 hg2))
          go_roundg 0
          case measure => omega
          case rel => exact ⟨true, ys ++ [hexC (W % 16) up], by omega, by go_num, rfl, congrArg (fun n => Value.slice (some ⟨g, 0, none⟩) n cap) (by simp), hB2, HY2, by simp; omega, grown_trans hgr (grown_trans (grown_alloc _ _ _) hg2)⟩
        · have HW : Hid (ys ++ hexG W up 1 true = (ys ++ [hexC (W % 16) up]) ++ hexG W up 0 true) := by
            rw [Hid, hexG_write W up 0 true (by exact .inl rfl), dgt0, List.append_assoc]; rfl
          have HY2 : Hid ((ys ++ [hexC (W % 16) up]) ++ hexG W up 0 true = T) := by rw [Hid, ← HW.out]; exact HY.out
          clear HW HY
          go_wp2_with (first | (go_at_call 32; refine (char32 _ up _ (by omega) (by omega)).mono ?_; rintro e w' ⟨rfl, rfl⟩) | (at_builtin; refine app1 _ rfl (.tmp 30) (.tmp 34) rfl g cap ys.length ys rfl rfl (hBy.alloc _) w'.heap.size (hexC (W % 16) up) rfl (cell_box _ _ 5 0 _ rfl) (by omega) ?_; intro w2 hB2 hg2))
          go_roundg 0
          case measure => omega
          case rel => exact ⟨true, ys ++ [hexC (W % 16) up], by omega, by go_num, rfl, congrArg (fun n => Value.slice (some ⟨g, 0, none⟩) n cap) (by simp), hB2, HY2, by simp; omega, grown_trans hgr (grown_trans (grown_alloc _ _ _) hg2)⟩
      · have q1 : (W % 16 != 0) = true := by rw [bne_iff_ne]; exact hd
        have HD : Hid (¬ W % 16 = 0) := hd
        clear hd
        cases st
        · have HW : Hid (ys ++ hexG W up 1 false = (ys ++ [hexC (W % 16) up]) ++ hexG W up 0 true) := by
            rw [Hid, hexG_write W up 0 false (by exact .inr (.inl (by rw [dgt0]; exact HD.out))), dgt0, List.append_assoc]; rfl
          have HY2 : Hid ((ys ++ [hexC (W % 16) up]) ++ hexG W up 0 true = T) := by rw [Hid, ← HW.out]; exact HY.out
          clear HW HY
          go_wp2_with (first | (go_at_call 32; refine (char32 _ up _ (by omega) (by omega)).mono ?_; rintro e w' ⟨rfl, rfl⟩) | (at_builtin; refine app1 _ rfl (.tmp 30) (.tmp 34) rfl g cap ys.length ys rfl rfl (hBy.alloc _) w'.heap.size (hexC (W % 16) up) rfl (cell_box _ _ 5 0 _ rfl) (by omega) ?_; intro w2 hB2 hg2))
          go_roundg 0
          case measure => omega
          case rel => exact ⟨true, ys ++ [hexC (W % 16) up], by omega, by go_num, rfl, congrArg (fun n => Value.slice (some ⟨g, 0, none⟩) n cap) (by simp), hB2, HY2, by simp; omega, grown_trans hgr (grown_trans (grown_alloc _ _ _) hg2)⟩
        · have HW : Hid (ys ++ hexG W up 1 true = (ys ++ [hexC (W % 16) up]) ++ hexG W up 0 true) := by
            rw [Hid, hexG_write W up 0 true (by exact .inl rfl), dgt0, List.append_assoc]; rfl
          have HY2 : Hid ((ys ++ [hexC (W % 16) up]) ++ hexG W up 0 true = T) := by rw [Hid, ← HW.out]; exact HY.out
          clear HW HY
          go_wp2_with (first | (go_at_call 32; refine (char32 _ up _ (by omega) (by omega)).mono ?_; rintro e w' ⟨rfl, rfl⟩) | (at_builtin; refine app1 _ rfl (.tmp 30) (.tmp 34) rfl g cap ys.length ys rfl rfl (hBy.alloc _) w'.heap.size (hexC (W % 16) up) rfl (cell_box _ _ 5 0 _ rfl) (by omega) ?_; intro w2 hB2 hg2))
          go_roundg 0
          case measure => omega
          case rel => exact ⟨true, ys ++ [hexC (W % 16) up], by omega, by go_num, rfl, congrArg (fun n => Value.slice (some ⟨g, 0, none⟩) n cap) (by simp), hB2, HY2, by simp; omega, grown_trans hgr (grown_trans (grown_alloc _ _ _) hg2)⟩
    · by_cases hd : W / 16 % 16 = 0
      · have q1 : (W / 16 % 16 != 0) = false := by rw [bne_eq_false_iff_eq]; exact hd
        have HD : Hid (W / 16 % 16 = 0) := hd
        cases st
        · have HY2 : Hid (ys ++ hexG W up 1 false = T) := by
            rw [Hid, ← HY.out, hexG_skip W up 1 (by rw [dgt1]; exact hd) (by omega)]
          clear HY hd
          go_wp2
          go_roundg 1
          case measure => omega
          case rel => exact ⟨false, ys, by omega, by go_num, rfl, rfl, hBy, HY2, by omega, hgr⟩
        · clear hd
          have HW : Hid (ys ++ hexG W up 2 true = (ys ++ [hexC (W / 16 % 16) up]) ++ hexG W up 1 true) := by
            rw [Hid, hexG_write W up 1 true (by exact .inl rfl), dgt1, List.append_assoc]; rfl
          have HY2 : Hid ((ys ++ [hexC (W / 16 % 16) up]) ++ hexG W up 1 true = T) := by rw [Hid, ← HW.out]; exact HY.out
          clear HW HY
          go_wp2_with (first | (go_at_call 32; refine (char32 _ up _ (by omega) (by omega)).mono ?_; rintro e w' ⟨rfl, rfl⟩) | (at_builtin; refine app1 _ rfl (.tmp 30) (.tmp 34) rfl g cap ys.length ys rfl rfl (hBy.alloc _) w'.heap.size (hexC (W / 16 % 16) up) rfl (cell_box _ _ 5 0 _ rfl) (by omega) ?_; intro w2 hB2 hg2))
          go_roundg 1
          case measure => omega
          case rel => exact ⟨true, ys ++ [hexC (W / 16 % 16) up], by omega, by go_num, rfl, congrArg (fun n => Value.slice (some ⟨g, 0, none⟩) n cap) (by simp), hB2, HY2, by simp; omega, grown_trans hgr (grown_trans (grown_alloc _ _ _) hg2)⟩
      · have q1 : (W / 16 % 16 != 0) = true := by rw [bne_iff_ne]; exact hd
        have HD : Hid (¬ W / 16 % 16 = 0) := hd
        clear hd
        cases st
        · have HW : Hid (ys ++ hexG W up 2 false = (ys ++ [hexC (W / 16 % 16) up]) ++ hexG W up 1 true) := by
            rw [Hid, hexG_write W up 1 false (by exact .inr (.inl (by rw [dgt1]; exact HD.out))), dgt1, List.append_assoc]; rfl
          have HY2 : Hid ((ys ++ [hexC (W / 16 % 16) up]) ++ hexG W up 1 true = T) := by rw [Hid, ← HW.out]; exact HY.out
          clear HW HY
          go_wp2_with (first | (go_at_call 32; refine (char32 _ up _ (by omega) (by omega)).mono ?_; rintro e w' ⟨rfl, rfl⟩) | (at_builtin; refine app1 _ rfl (.tmp 30) (.tmp 34) rfl g cap ys.length ys rfl rfl (hBy.alloc _) w'.heap.size (hexC (W / 16 % 16) up) rfl (cell_box _ _ 5 0 _ rfl) (by omega) ?_; intro w2 hB2 hg2))
          go_roundg 1
          case measure => omega
          case rel => exact ⟨true, ys ++ [hexC (W / 16 % 16) up], by omega, by go_num, rfl, congrArg (fun n => Value.slice (some ⟨g, 0, none⟩) n cap) (by simp), hB2, HY2, by simp; omega, grown_trans hgr (grown_trans (grown_alloc _ _ _) hg2)⟩
        · have HW : Hid (ys ++ hexG W up 2 true = (ys ++ [hexC (W / 16 % 16) up]) ++ hexG W up 1 true) := by
            rw [Hid, hexG_write W up 1 true (by exact .inl rfl), dgt1, List.append_assoc]; rfl
          have HY2 : Hid ((ys ++ [hexC (W / 16 % 16) up]) ++ hexG W up 1 true = T) := by rw [Hid, ← HW.out]; exact HY.out
          clear HW HY
          go_wp2_with (first | (go_at_call 32; refine (char32 _ up _ (by omega) (by omega)).mono ?_; rintro e w' ⟨rfl, rfl⟩) | (at_builtin; refine app1 _ rfl (.tmp 30) (.tmp 34) rfl g cap ys.length ys rfl rfl (hBy.alloc _) w'.heap.size (hexC (W / 16 % 16) up) rfl (cell_box _ _ 5 0 _ rfl) (by omega) ?_; intro w2 hB2 hg2))
          go_roundg 1
          case measure => omega
          case rel => exact ⟨true, ys ++ [hexC (W / 16 % 16) up], by omega, by go_num, rfl, congrArg (fun n => Value.slice (some ⟨g, 0, none⟩) n cap) (by simp), hB2, HY2, by simp; omega, grown_trans hgr (grown_trans (grown_alloc _ _ _) hg2)⟩
    · by_cases hd : W / 256 % 16 = 0
      · have q1 : (W / 256 % 16 != 0) = false := by rw [bne_eq_false_iff_eq]; exact hd
        have HD : Hid (W / 256 % 16 = 0) := hd
        cases st
        · have HY2 : Hid (ys ++ hexG W up 2 false = T) := by
            rw [Hid, ← HY.out, hexG_skip W up 2 (by rw [dgt2]; exact hd) (by omega)]
          clear HY hd
          go_wp2
          go_roundg 2
          case measure => omega
          case rel => exact ⟨false, ys, by omega, by go_num, rfl, rfl, hBy, HY2, by omega, hgr⟩
        · clear hd
          have HW : Hid (ys ++ hexG W up 3 true = (ys ++ [hexC (W / 256 % 16) up]) ++ hexG W up 2 true) := by
            rw [Hid, hexG_write W up 2 true (by exact .inl rfl), dgt2, List.append_assoc]; rfl
          have HY2 : Hid ((ys ++ [hexC (W / 256 % 16) up]) ++ hexG W up 2 true = T) := by rw [Hid, ← HW.out]; exact HY.out
          clear HW HY
          go_wp2_with (first | (go_at_call 32; refine (char32 _ up _ (by omega) (by omega)).mono ?_; rintro e w' ⟨rfl, rfl⟩) | (at_builtin; refine app1 _ rfl (.tmp 30) (.tmp 34) rfl g cap ys.length ys rfl rfl (hBy.alloc _) w'.heap.size (hexC (W / 256 % 16) up) rfl (cell_box _ _ 5 0 _ rfl) (by omega) ?_; intro w2 hB2 hg2))
          go_roundg 2
          case measure => omega
          case rel => exact ⟨true, ys ++ [hexC (W / 256 % 16) up], by omega, by go_num, rfl, congrArg (fun n => Value.slice (some ⟨g, 0, none⟩) n cap) (by simp), hB2, HY2, by simp; omega, grown_trans hgr (grown_trans (grown_alloc _ _ _) hg2)⟩
      · have q1 : (W / 256 % 16 != 0) = true := by rw [bne_iff_ne]; exact hd
        have HD : Hid (¬ W / 256 % 16 = 0) := hd
        clear hd
        cases st
        · have HW : Hid (ys ++ hexG W up 3 false = (ys ++ [hexC (W / 256 % 16) up]) ++ hexG W up 2 true) := by
            rw [Hid, hexG_write W up 2 false (by exact .inr (.inl (by rw [dgt2]; exact HD.out))), dgt2, List.append_assoc]; rfl
          have HY2 : Hid ((ys ++ [hexC (W / 256 % 16) up]) ++ hexG W up 2 true = T) := by rw [Hid, ← HW.out]; exact HY.out
          clear HW HY
          go_wp2_with (first | (go_at_call 32; refine (char32 _ up _ (by omega) (by omega)).mono ?_; rintro e w' ⟨rfl, rfl⟩) | (at_builtin; refine app1 _ rfl (.tmp 30) (.tmp 34) rfl g cap ys.length ys rfl rfl (hBy.alloc _) w'.heap.size (hexC (W / 256 % 16) up) rfl (cell_box _ _ 5 0 _ rfl) (by omega) ?_; intro w2 hB2 hg2))
          go_roundg 2
          case measure => omega
          case rel => exact ⟨true, ys ++ [hexC (W / 256 % 16) up], by omega, by go_num, rfl, congrArg (fun n => Value.slice (some ⟨g, 0, none⟩) n cap) (by simp), hB2, HY2, by simp; omega, grown_trans hgr (grown_trans (grown_alloc _ _ _) hg2)⟩
        · have HW : Hid (ys ++ hexG W up 3 true = (ys ++ [hexC (W / 256 % 16) up]) ++ hexG W up 2 true) := by
            rw [Hid, hexG_write W up 2 true (by exact .inl rfl), dgt2, List.append_assoc]; rfl
          have HY2 : Hid ((ys ++ [hexC (W / 256 % 16) up]) ++ hexG W up 2 true = T) := by rw [Hid, ← HW.out]; exact HY.out
          clear HW HY
          go_wp2_with (first | (go_at_call 32; refine (char32 _ up _ (by omega) (by omega)).mono ?_; rintro e w' ⟨rfl, rfl⟩) | (at_builtin; refine app1 _ rfl (.tmp 30) (.tmp 34) rfl g cap ys.length ys rfl rfl (hBy.alloc _) w'.heap.size (hexC (W / 256 % 16) up) rfl (cell_box _ _ 5 0 _ rfl) (by omega) ?_; intro w2 hB2 hg2))
          go_roundg 2
          case measure => omega
          case rel => exact ⟨true, ys ++ [hexC (W / 256 % 16) up], by omega, by go_num, rfl, congrArg (fun n => Value.slice (some ⟨g, 0, none⟩) n cap) (by simp), hB2, HY2, by simp; omega, grown_trans hgr (grown_trans (grown_alloc _ _ _) hg2)⟩
    · by_cases hd : W / 4096 % 16 = 0
      · have q1 : (W / 4096 % 16 != 0) = false := by rw [bne_eq_false_iff_eq]; exact hd
        have HD : Hid (W / 4096 % 16 = 0) := hd
        cases st
        · have HY2 : Hid (ys ++ hexG W up 3 false = T) := by
            rw [Hid, ← HY.out, hexG_skip W up 3 (by rw [dgt3]; exact hd) (by omega)]
          clear HY hd
          go_wp2
          go_roundg 3
          case measure => omega
          case rel => exact ⟨false, ys, by omega, by go_num, rfl, rfl, hBy, HY2, by omega, hgr⟩
        · clear hd
          have HW : Hid (ys ++ hexG W up 4 true = (ys ++ [hexC (W / 4096 % 16) up]) ++ hexG W up 3 true) := by
            rw [Hid, hexG_write W up 3 true (by exact .inl rfl), dgt3, List.append_assoc]; rfl
          have HY2 : Hid ((ys ++ [hexC (W / 4096 % 16) up]) ++ hexG W up 3 true = T) := by rw [Hid, ← HW.out]; exact HY.out
          clear HW HY
          go_wp2_with (first | (go_at_call 32; refine (char32 _ up _ (by omega) (by omega)).mono ?_; rintro e w' ⟨rfl, rfl⟩) | (at_builtin; refine app1 _ rfl (.tmp 30) (.tmp 34) rfl g cap ys.length ys rfl rfl (hBy.alloc _) w'.heap.size (hexC (W / 4096 % 16) up) rfl (cell_box _ _ 5 0 _ rfl) (by omega) ?_; intro w2 hB2 hg2))
          go_roundg 3
          case measure => omega
          case rel => exact ⟨true, ys ++ [hexC (W / 4096 % 16) up], by omega, by go_num, rfl, congrArg (fun n => Value.slice (some ⟨g, 0, none⟩) n cap) (by simp), hB2, HY2, by simp; omega, grown_trans hgr (grown_trans (grown_alloc _ _ _) hg2)⟩
      · have q1 : (W / 4096 % 16 != 0) = true := by rw [bne_iff_ne]; exact hd
        have HD : Hid (¬ W / 4096 % 16 = 0) := hd
        clear hd
        cases st
        · have HW : Hid (ys ++ hexG W up 4 false = (ys ++ [hexC (W / 4096 % 16) up]) ++ hexG W up 3 true) := by
            rw [Hid, hexG_write W up 3 false (by exact .inr (.inl (by rw [dgt3]; exact HD.out))), dgt3, List.append_assoc]; rfl
          have HY2 : Hid ((ys ++ [hexC (W / 4096 % 16) up]) ++ hexG W up 3 true = T) := by rw [Hid, ← HW.out]; exact HY.out
          clear HW HY
          go_wp2_with (first | (go_at_call 32; refine (char32 _ up _ (by omega) (by omega)).mono ?_; rintro e w' ⟨rfl, rfl⟩) | (at_builtin; refine app1 _ rfl (.tmp 30) (.tmp 34) rfl g cap ys.length ys rfl rfl (hBy.alloc _) w'.heap.size (hexC (W / 4096 % 16) up) rfl (cell_box _ _ 5 0 _ rfl) (by omega) ?_; intro w2 hB2 hg2))
          go_roundg 3
          case measure => omega
          case rel => exact ⟨true, ys ++ [hexC (W / 4096 % 16) up], by omega, by go_num, rfl, congrArg (fun n => Value.slice (some ⟨g, 0, none⟩) n cap) (by simp), hB2, HY2, by simp; omega, grown_trans hgr (grown_trans (grown_alloc _ _ _) hg2)⟩
        · have HW : Hid (ys ++ hexG W up 4 true = (ys ++ [hexC (W / 4096 % 16) up]) ++ hexG W up 3 true) := by
            rw [Hid, hexG_write W up 3 true (by exact .inl rfl), dgt3, List.append_assoc]; rfl
          have HY2 : Hid ((ys ++ [hexC (W / 4096 % 16) up]) ++ hexG W up 3 true = T) := by rw [Hid, ← HW.out]; exact HY.out
          clear HW HY
          go_wp2_with (first | (go_at_call 32; refine (char32 _ up _ (by omega) (by omega)).mono ?_; rintro e w' ⟨rfl, rfl⟩) | (at_builtin; refine app1 _ rfl (.tmp 30) (.tmp 34) rfl g cap ys.length ys rfl rfl (hBy.alloc _) w'.heap.size (hexC (W / 4096 % 16) up) rfl (cell_box _ _ 5 0 _ rfl) (by omega) ?_; intro w2 hB2 hg2))
          go_roundg 3
          case measure => omega
          case rel => exact ⟨true, ys ++ [hexC (W / 4096 % 16) up], by omega, by go_num, rfl, congrArg (fun n => Value.slice (some ⟨g, 0, none⟩) n cap) (by simp), hB2, HY2, by simp; omega, grown_trans hgr (grown_trans (grown_alloc _ _ _) hg2)⟩

/-! ### 15: a byte in decimal -/
def decT (v : Int) : List Int := if 100 ≤ v then [48 + v / 100, 48 + v / 10 % 10, 48 + v % 10] else if 10 ≤ v then [48 + v / 10 % 10, 48 + v % 10] else [48 + v % 10]

set_option maxHeartbeats 1000000 in
theorem dec15 (g cap : Nat) (xs : List Int) (v : Int) (w : World) (hB : Buf w g cap xs) (h0 : 0 ≤ v) (h1 : v ≤ 255) (hroom : xs.length + 3 ≤ cap) :
    Calls Try.prog 15 #[.slice (some ⟨g, 0, none⟩) xs.length cap, .int .u8 v] w fun e w' =>
      e = .returned (.slice (some ⟨g, 0, none⟩) (xs ++ decT v).length cap) ∧ Buf w' g cap (xs ++ decT v) ∧ w.grownBy w' (some g) := by
  obtain ⟨T, hT⟩ : ∃ T, xs ++ decT v = T := ⟨_, rfl⟩
  rw [hT]
  by_cases h2 : 100 ≤ v
  · have h3 : 10 ≤ v := by omega
    have e : decT v = [48 + v / 100, 48 + v / 10 % 10, 48 + v % 10] := if_pos h2
    rw [e] at hT
    have HT : Hid (_ = T) := hT
    clear e hT
    go_enter Try.func15, Try.ntmps15
    go_wp2_with (first | (at_builtin; refine app1 _ rfl (.tmp 7) (.tmp 11) rfl g cap xs.length xs rfl rfl (hB.alloc _) w.heap.size (48 + v / 100) rfl (cell_box _ _ 5 0 _ rfl) (by omega) ?_; intro w1 hB1 hg1) | (at_builtin; refine app1 _ rfl (.tmp 15) (.tmp 20) rfl g cap (xs.length + 1) _ (by simp) rfl (hB1.alloc _) w1.heap.size (48 + v / 10 % 10) rfl (cell_box _ _ 5 0 _ rfl) (by omega) ?_; intro w2 hB2 hg2) | (at_builtin; refine app1 _ rfl (.tmp 22) (.tmp 26) rfl g cap (xs.length + 1 + 1) _ (by simp) rfl (hB2.alloc _) w2.heap.size (48 + v % 10) rfl (cell_box _ _ 5 0 _ rfl) (by omega) ?_; intro w3 hB3 hg3))
    go_ret
    rw [← HT.out]
    exact ⟨congrArg (fun n => Ending.returned (Value.slice (some ⟨g, 0, none⟩) n cap)) (by simp), by simpa using hB3, grown_trans (grown_trans (grown_alloc _ _ _) hg1) (grown_trans (grown_trans (grown_alloc _ _ _) hg2) (grown_trans (grown_alloc _ _ _) hg3))⟩
  · by_cases h3 : 10 ≤ v
    · have e : decT v = [48 + v / 10 % 10, 48 + v % 10] := by unfold decT; rw [if_neg h2, if_pos h3]
      rw [e] at hT
      have HT : Hid (_ = T) := hT
      clear e hT
      go_enter Try.func15, Try.ntmps15
      go_wp2_with (first | (at_builtin; refine app1 _ rfl (.tmp 15) (.tmp 20) rfl g cap xs.length xs rfl rfl (hB.alloc _) w.heap.size (48 + v / 10 % 10) rfl (cell_box _ _ 5 0 _ rfl) (by omega) ?_; intro w2 hB2 hg2) | (at_builtin; refine app1 _ rfl (.tmp 22) (.tmp 26) rfl g cap (xs.length + 1) _ (by simp) rfl (hB2.alloc _) w2.heap.size (48 + v % 10) rfl (cell_box _ _ 5 0 _ rfl) (by omega) ?_; intro w3 hB3 hg3))
      go_ret
      rw [← HT.out]
      exact ⟨congrArg (fun n => Ending.returned (Value.slice (some ⟨g, 0, none⟩) n cap)) (by simp), by simpa using hB3, grown_trans (grown_trans (grown_alloc _ _ _) hg2) (grown_trans (grown_alloc _ _ _) hg3)⟩
    · have e : decT v = [48 + v % 10] := by unfold decT; rw [if_neg h2, if_neg h3]
      rw [e] at hT
      have HT : Hid (_ = T) := hT
      clear e hT
      go_enter Try.func15, Try.ntmps15
      go_wp2_with (at_builtin; refine app1 _ rfl (.tmp 22) (.tmp 26) rfl g cap xs.length xs rfl rfl (hB.alloc _) w.heap.size (48 + v % 10) rfl (cell_box _ _ 5 0 _ rfl) (by omega) ?_; intro w3 hB3 hg3)
      go_ret
      rw [← HT.out]
      exact ⟨congrArg (fun n => Ending.returned (Value.slice (some ⟨g, 0, none⟩) n cap)) (by simp), by simpa using hB3, grown_trans (grown_alloc _ _ _) hg3⟩

end Go.Proofs.Qxb6605336a
