/-
  WALK: the law 'FnReadGroupsRoundTrip' (4): the text is spelt out.
-/
import Derived.Test.Qxb6605336aRtP
namespace Go.Proofs.Qxb6605336a
open Go.RowKit Go.Deep Go.ChangeAt Go.WideShapes Go.ChangeShapes

theorem hexAny (g cap n : Nat) (xs : List Int) (hn : xs.length = n) (W : Int) (up zeros : Bool) (w : World) (hB : Buf w g cap xs) (h0 : 0 ≤ W) (h1 : W ≤ 65535) (hroom : n + 4 ≤ cap) :
    Calls Try.prog 14 #[.slice (some ⟨g, 0, none⟩) n cap, .int .u16 W, .bool up, .bool zeros] w fun e w' =>
      ∃ m, e = .returned (.slice (some ⟨g, 0, none⟩) m cap) ∧ Hid ((xs ++ hexG W up 4 zeros).length = m) ∧ Buf w' g cap (xs ++ hexG W up 4 zeros) ∧ w.grownBy w' (some g) := by
  subst hn
  refine (hex14 g cap xs W up zeros w hB h0 h1 hroom).mono ?_
  rintro e w' ⟨rfl, h1, h2⟩
  exact ⟨_, rfl, rfl, h1, h2⟩
theorem decAny (g cap n : Nat) (xs : List Int) (hn : xs.length = n) (v : Int) (w : World) (hB : Buf w g cap xs) (h0 : 0 ≤ v) (h1 : v ≤ 255) (hroom : n + 3 ≤ cap) :
    Calls Try.prog 15 #[.slice (some ⟨g, 0, none⟩) n cap, .int .u8 v] w fun e w' =>
      ∃ m, e = .returned (.slice (some ⟨g, 0, none⟩) m cap) ∧ Hid ((xs ++ decT v).length = m) ∧ Buf w' g cap (xs ++ decT v) ∧ w.grownBy w' (some g) := by
  subst hn
  refine (dec15 g cap xs v w hB h0 h1 hroom).mono ?_
  rintro e w' ⟨rfl, h1, h2⟩
  exact ⟨_, rfl, rfl, h1, h2⟩

theorem below_grown {B g : Nat} {a w w' : World} (h : Below B a w) (hg : w.grownBy w' (some g)) (hB : B ≤ w.heap.size) (hr : B ≤ g) : Below B a w' := h.grown hg hB (fun k e => by cases e; exact hr)

theorem Elems.kept {w w' : World} {ad : Option Addr} {len : Nat} {f : Nat → Value} (h : Elems w ad len f) (hb : Below w.heap.size w w') : Elems w' ad len f :=
  ⟨h.1, fun x hx i hi => (hb.cell (lt_of_cell (h.2 x hx i hi))).trans (h.2 x hx i hi)⟩

/-- Word k: its address, and what lies there. -/
theorem word_at {w : World} {ad : Option Addr} {len : Nat} {f : Nat → Value} (cap : Nat) (hE : Elems w ad len f) {k : Nat} (hk : k < len) :
    ∃ a : Addr, a.block < w.heap.size ∧ (∀ w', (Instr.indexAt 29 (.slice ad len cap) (.int .i64 (k : Int))).run Try.prog w' = .ok (.pointer (some a)) w') ∧ w.cell? a = some (f k) := by
  cases ad with
  | none => have := hE.1 rfl; omega
  | some x =>
    refine ⟨x.add k, lt_of_cell (hE.2 x rfl k hk), fun w' => ?_, hE.2 x rfl k hk⟩
    have hs : (sizeOf (Try.prog.elem 29)).run Try.prog w' = .ok 1 w' := by kernel_rfl
    rw [run_indexAt_slice w' 29 x len cap .i64 (k : Int) (by kernel_rfl), if_pos (by omega), hs]
    simp

theorem buf_new (w : World) (cap : Nat) (hc : cap ≤ maxLen) : Buf (w.alloc (.cells (madeCells #[.int .u8 0] cap) 5)) w.heap.size cap [] :=
  ⟨rfl, .inr ⟨w.heap.size, cap, _, rfl, Nat.zero_le _, blk_alloc_new _ _, Nat.zero_le _, hc, by simp [size_madeCells], by simp⟩⟩

theorem make_buf (cap : Nat) (C : Int) (hC : C = (cap : Int)) (h : cap ≤ 1048576) (w : World) : (Instr.makeSlice 22 (.int .i64 0) (.int .i64 C)).run Try.prog w = .ok (.slice (some ⟨w.heap.size, 0, none⟩) 0 cap) (w.alloc (.cells (madeCells #[.int .u8 0] cap) 5)) := by
  subst hC
  obtain ⟨i0, hi, hz0, hz1, hz2⟩ := info_parts Try.info5
  have hr := run_make (P := Try.prog) w 22 5 i0 (.int .u8 0) Try.underlying22 hi hz0 .i64 .i64 0 (cap : Int) (by omega) (by omega) (by rw [hz2]; omega) (by omega)
  rw [hz1, Nat.mul_one, Int.toNat_natCast] at hr
  exact hr

/-- What holds of the two buffers. -/
structure Two (w1 wr : World) (X Y : List Int) (cx cy : Nat) : Prop where
  bx : Buf wr w1.heap.size cx X
  by_ : Buf wr (w1.heap.size + 1) cy Y
  bl : Below w1.heap.size w1 wr

theorem two_new (w1 : World) (cx cy : Nat) (hx : cx ≤ maxLen) (hy : cy ≤ maxLen) : Two w1 ((w1.alloc (.cells (madeCells #[.int .u8 0] cx) 5)).alloc (.cells (madeCells #[.int .u8 0] cy) 5)) [] [] cx cy := by
  have hs : (w1.alloc (.cells (madeCells #[.int .u8 0] cx) 5)).heap.size = w1.heap.size + 1 := by simp
  have hb := buf_new (w1.alloc (.cells (madeCells #[.int .u8 0] cx) 5)) cy hy
  rw [hs] at hb
  exact ⟨(buf_new w1 cx hx).alloc _, hb, ((Below.refl _ _).alloc (Nat.le_refl _) _).alloc (by omega) _⟩

/-- The round's steps, on worlds alone. -/
theorem Two.alloc {w1 wr : World} {X Y : List Int} {cx cy : Nat} (h : Two w1 wr X Y cx cy) (o : Obj) : Two w1 (wr.alloc o) X Y cx cy := ⟨h.bx.alloc o, h.by_.alloc o, h.bl.alloc h.bl.size o⟩
theorem Two.stepX {w1 wr w' : World} {X X' Y : List Int} {cx cy : Nat} (h : Two w1 wr X Y cx cy) (hB : Buf w' w1.heap.size cx X') (hg : wr.grownBy w' (some w1.heap.size)) : Two w1 w' X' Y cx cy :=
  ⟨hB, h.by_.other hg (by omega), below_grown h.bl hg h.bl.size (Nat.le_refl _)⟩
theorem Two.stepY {w1 wr w' : World} {X Y Y' : List Int} {cx cy : Nat} (h : Two w1 wr X Y cx cy) (hB : Buf w' (w1.heap.size + 1) cy Y') (hg : wr.grownBy w' (some (w1.heap.size + 1))) : Two w1 w' X Y' cx cy :=
  ⟨h.bx.other hg (by omega), hB, below_grown h.bl hg h.bl.size (by omega)⟩
theorem Two.cell {w1 wr : World} {X Y : List Int} {cx cy : Nat} (h : Two w1 wr X Y cx cy) {a : Addr} {v : Value} (ha : a.block < w1.heap.size) (hc : w1.cell? a = some v) : wr.cell? a = some v := (h.bl.cell ha).trans hc

theorem txt_next (f : Nat → Int) (up zeros : Bool) (k : Nat) (h : k ≠ 0) : txt f up zeros k ++ [58] ++ hexG (f k) up 4 zeros = txt f up zeros (k + 1) := by rw [txt, if_neg h]
theorem txt_first (f : Nat → Int) (up zeros : Bool) (k : Nat) (h : k = 0) : txt f up zeros k ++ hexG (f k) up 4 zeros = txt f up zeros (k + 1) := by subst h; simp [txt]
theorem wnt_next (f : Nat → Int) (k : Nat) : wnt f k ++ [f k / 256] ++ [f k % 256] = wnt f (k + 1) := by simp [wnt]

theorem len_dec {xs : List Int} {n m : Nat} {v : Int} (hv : 0 ≤ v ∧ v ≤ 255) (h1 : xs.length = n) (h2 : (xs ++ decT v).length = m) : m ≤ n + 3 := by
  have := (decT_digits v hv.1 hv.2).2.1
  rw [List.length_append] at h2
  omega
theorem len_one {xs : List Int} {n : Nat} {c : Int} (h1 : xs.length = n) : Hid ((xs ++ [c]).length = n + 1) := by
  rw [Hid, List.length_append, h1]; rfl
theorem full_false (f : Nat → Int) (n : Nat) (up zeros : Bool) (q0 q1 q2 q3 : Int) : fullT f n up zeros false q0 q1 q2 q3 = txt f up zeros n := by simp [fullT]
theorem fullW_false (f : Nat → Int) (n : Nat) (q0 q1 q2 q3 : Int) : fullW f n false q0 q1 q2 q3 = wnt f n := by simp [fullW]
theorem fullW_true (f : Nat → Int) (n : Nat) (q0 q1 q2 q3 : Int) : fullW f n true q0 q1 q2 q3 = wnt f n ++ [q0, q1, q2, q3] := by simp [fullW]
theorem snoc4 (l : List Int) (q0 q1 q2 q3 : Int) : l ++ [q0, q1, q2, q3] = l ++ [q0] ++ [q1] ++ [q2] ++ [q3] := by simp
theorem full_pos (f : Nat → Int) (n : Nat) (up zeros : Bool) (q0 q1 q2 q3 : Int) (h : 0 < n) : fullT f n up zeros true q0 q1 q2 q3 = txt f up zeros n ++ [58] ++ decT q0 ++ [46] ++ decT q1 ++ [46] ++ decT q2 ++ [46] ++ decT q3 := by
  unfold fullT quadT
  rw [if_pos rfl, if_neg (by omega)]
  simp
theorem full_zero (f : Nat → Int) (n : Nat) (up zeros : Bool) (q0 q1 q2 q3 : Int) (h : n = 0) : fullT f n up zeros true q0 q1 q2 q3 = txt f up zeros n ++ decT q0 ++ [46] ++ decT q1 ++ [46] ++ decT q2 ++ [46] ++ decT q3 := by
  unfold fullT quadT
  rw [if_pos rfl, if_pos h]
  simp

theorem Buf.cell {w : World} {g cap : Nat} {xs : List Int} (h : Buf w g cap xs) {i : Nat} (hi : i < xs.length) : w.cell? ⟨g, i, none⟩ = some (.int .u8 (xs.getD i 0)) := by
  obtain ⟨h1, h2⟩ := h
  rcases h2 with ⟨h2, _⟩ | ⟨g', cap', cur, hv, hg, hh, r1, r2, r3, r4⟩
  · cases h2
  · obtain ⟨⟩ := hv
    have hc : cur[i]? = some (.int .u8 (xs.getD i 0)) := by
      have e : cur.toList[i]? = (cur.toList.take (xs.length * 1))[i]? := by rw [List.getElem?_take, if_pos (by omega)]
      rw [← Array.getElem?_toList, e, r4, List.getElem?_map, List.getElem?_eq_getElem hi]
      simp [List.getD, hi]
    simp [World.cell?, hh, hc]
theorem Buf.le {w : World} {g cap : Nat} {xs : List Int} (h : Buf w g cap xs) : xs.length ≤ cap := by
  obtain ⟨h1, h2⟩ := h
  rcases h2 with ⟨h2, _⟩ | ⟨g', cap', cur, hv, hg, hh, r1, r2, r3, r4⟩
  · cases h2
  · obtain ⟨⟩ := hv
    exact r1
theorem Buf.keptA {w w' : World} {g cap D : Nat} {xs : List Int} (h : Buf w g cap xs) (hO : OnlyA (some ⟨D, 0, none⟩) w w') (hn : g < D) : Buf w' g cap xs :=
  h.kept (hO.block g h.lt (fun x hx => by cases hx; exact Nat.ne_of_lt hn))
theorem onlyA_below {B D : Nat} {a b c : World} (h : Below B a b) (hO : OnlyA (some ⟨D, 0, none⟩) b c) (hB : B ≤ D) (hs : B ≤ a.heap.size := by exact Nat.le_refl _) : Below B a c :=
  h.trans ⟨hO.os, hO.tape, hO.output, hO.size, fun i hi => hO.block i (by have := h.size; omega) (fun x hx => by cases hx; exact Nat.ne_of_lt (Nat.lt_of_lt_of_le hi hB))⟩

theorem dst_new (w : World) (n : Nat) : DstIs (w.alloc (.cells (madeCells #[.int .u8 0] n) 5)) (some ⟨w.heap.size, 0, none⟩) (List.replicate n 0) := by
  refine .inr ⟨w.heap.size, rfl, ?_⟩
  rw [List.length_replicate]
  refine (World.rowIs_made w (.int .u8 0) n 5).congr ?_
  intro i hi
  simp [List.getD, hi]

/-- The whole text into a buffer of its size. -/
theorem read_all (S : ByteArray) (D b : Nat) (ip : Bool) (w : World) (hs : S.size ≤ 1048576) (hb : b ≤ 1048576) (hD : DstIs w (some ⟨D, 0, none⟩) (List.replicate b 0)) (WN : List Int) (hR : Rg.rgs b ip (bs S) = (WN, true)) (hW : WN.length = b) :
    Calls Try.prog 10 #[.string S, .slice (some ⟨D, 0, none⟩) b b, .bool ip] w fun e w' => e = .returned (.tuple #[.int .i64 (b : Int), .bool true]) ∧ DstIs w' (some ⟨D, 0, none⟩) WN ∧ OnlyA (some ⟨D, 0, none⟩) w w' := by
  have h := read10 S (some ⟨D, 0, none⟩) b (List.replicate b 0) ip w hs (by simpa using hb) (by simp) hD
  rw [List.length_replicate, hR] at h
  refine h.mono ?_
  rintro e w' ⟨rfl, h1, h2⟩
  have hfill : fillD WN (List.replicate b 0) = WN := by
    unfold fillD
    rw [hW, List.drop_of_length_le (by simp), List.append_nil]
  rw [hfill] at h1
  exact ⟨by rw [hW], h1, h2⟩

theorem DstIs.cellAt {w : World} {D : Nat} {cont : List Int} (h : DstIs w (some ⟨D, 0, none⟩) cont) {i : Nat} (hi : i < cont.length) : w.cell? ⟨D, i, none⟩ = some (.int .u8 (cont.getD i 0)) := by
  rcases h with h | ⟨D', e, hr⟩
  · omega
  · cases e
    exact hr.cell hi

/-- The text into a buffer that is too short. -/
theorem read_short (S : ByteArray) (D b : Nat) (ip : Bool) (w : World) (hs : S.size ≤ 1048576) (hb : b ≤ 1048576) (hD : DstIs w (some ⟨D, 0, none⟩) (List.replicate b 0)) (hR : (Rg.rgs b ip (bs S)).2 = false) :
    Calls Try.prog 10 #[.string S, .slice (some ⟨D, 0, none⟩) b b, .bool ip] w fun e w' => (∃ n : Int, e = .returned (.tuple #[.int .i64 n, .bool false])) ∧ OnlyA (some ⟨D, 0, none⟩) w w' := by
  have h := read10 S (some ⟨D, 0, none⟩) b (List.replicate b 0) ip w hs (by simpa using hb) (by simp) hD
  rw [List.length_replicate, hR] at h
  refine h.mono ?_
  rintro e w' ⟨rfl, h1, h2⟩
  exact ⟨⟨_, rfl⟩, h2⟩

set_option maxRecDepth 100000 in
set_option maxHeartbeats 2000000 in
theorem law4_main (ad : Option Addr) (len cap : Nat) (f : Nat → Int) (up zeros quad : Bool) (q0 q1 q2 q3 : Int) (w : World) (hE : Elems w ad len (fun i => .int .u16 (f i))) (hf : ∀ i, i < len → 0 ≤ f i ∧ f i ≤ 65535) (hl : len ≤ 65536)
    (g0 : 0 ≤ q0 ∧ q0 ≤ 255) (g1 : 0 ≤ q1 ∧ q1 ≤ 255) (g2 : 0 ≤ q2 ∧ q2 ≤ 255) (g3 : 0 ≤ q3 ∧ q3 ≤ 255) :
    Calls Try.prog 4 #[.slice ad len cap, .bool up, .bool zeros, .bool quad, .int .u8 q0, .int .u8 q1, .int .u8 q2, .int .u8 q3] w fun e w' => e = .returned (.bool true) ∧ Below w.heap.size w w' := by
  have hmk1 := make_buf (5 * len + 16) (5 * (len : Int) + 16) (by omega) (by omega)
  have hmk2 := make_buf (2 * len + 4) (2 * (len : Int) + 4) (by omega) (by omega)
  go_enter Try.func4, Try.ntmps4
  go_wp2_with fail
  refine (bytes12 ad len cap up zeros quad q0 q1 q2 q3 w (by omega)).mono ?_
  rintro e w0 ⟨⟨bb, rfl⟩, rfl⟩
  cases bb
  · go_wp2
    go_ret
    exact ⟨rfl, Below.refl _ _⟩
  go_wp2_with fail
  refine (clone13 ad len cap f w0 (by omega) hE).mono ?_
  rintro e w1 ⟨ad', rfl, hE1, _, _, hb1⟩
  go_wp2
  go_loopg [17, 18, 19] len (fun n tv wv iv wr => ∃ (k : Nat) (a b : Nat), k ≤ len ∧ n = len - k ∧ iv = .int .i64 k ∧ tv = .slice (some ⟨w1.heap.size, 0, none⟩) a (5 * len + 16) ∧ wv = .slice (some ⟨w1.heap.size + 1, 0, none⟩) b (2 * len + 4) ∧
    Hid ((txt f up zeros k).length = a ∧ (wnt f k).length = b) ∧ Two w1 wr (txt f up zeros k) (wnt f k) (5 * len + 16) (2 * len + 4))
  case atStart => exact ⟨0, 0, 0, Nat.zero_le _, rfl, rfl, rfl, rfl, ⟨rfl, rfl⟩, two_new w1 _ _ (by unfold maxLen; omega) (by unfold maxLen; omega)⟩
  case round =>
    obtain ⟨k, a, b, hk, rfl, rfl, rfl, rfl, HL, hT⟩ := hrel
    by_cases hlt : k < len
    · obtain ⟨x, x1, x2, x3⟩ := word_at len hE1 hlt
      have hlen := txt_length f up zeros k
      have hwl := wnt_length f k
      obtain ⟨ea, eb⟩ := HL.out
      have ha : a ≤ 5 * k := by omega
      have hb : b ≤ 2 * k := by omega
      have HEA : Hid ((txt f up zeros k).length = a) := ea
      have HEB : Hid ((wnt f k).length = b) := eb
      obtain ⟨hf0, hf1⟩ := hf k hlt
      have c0 := hT.cell x1 x3
      clear hlen hwl ea eb HL
      by_cases h0 : k = 0
      · have hk0 : ¬ 0 < k := by omega
        have HK : Hid (k = 0) := h0
        clear h0
        go_wp2_with (first | (go_at_call 14; refine (hexAny w1.heap.size (5 * len + 16) (a) _ HEA.out (f k) up zeros wr hT.bx hf0 hf1 (by omega)).mono ?_; rintro e w3 ⟨m, rfl, HM, hB3, hG3⟩; have hT3 := hT.stepX hB3 hG3; have c3 := hT3.cell x1 x3) | (at_builtin; refine app1 _ rfl (.tmp 72) (.tmp 79) rfl (w1.heap.size + 1) (2 * len + 4) b _ HEB.out rfl (hT3.by_.alloc _) w3.heap.size (f k / 256) rfl (cell_box _ _ 5 0 _ rfl) (by omega) ?_; intro w4 hB4 hG4; have hT4 := (hT3.alloc _).stepY hB4 hG4; have c4 := hT4.cell x1 x3) | (at_builtin; refine app1 _ rfl (.tmp 81) (.tmp 87) rfl (w1.heap.size + 1) (2 * len + 4) (b + 1) _ (by simp [HEB.out]) rfl (hT4.by_.alloc _) w4.heap.size (f k % 256) rfl (cell_box _ _ 5 0 _ rfl) (by omega) ?_; intro w5 hB5 hG5; have hT5 := (hT4.alloc _).stepY hB5 hG5))
        go_roundg (len - (k + 1))
        case measure => omega
        case rel =>
          rw [txt_first f up zeros k HK.out] at hT5 HM
          rw [wnt_next] at hT5
          exact ⟨k + 1, m, b + 1 + 1, by omega, rfl, by go_num, rfl, rfl, ⟨HM.out, by rw [wnt_length]; have := HEB.out; rw [wnt_length] at this; omega⟩, hT5⟩
      · have hk0 : 0 < k := by omega
        go_wp2_with (first | (at_builtin; refine app1 _ rfl (.tmp 61) (.tmp 62) rfl w1.heap.size (5 * len + 16) a _ HEA.out rfl (hT.bx.alloc _) wr.heap.size 58 rfl (cell_box _ _ 5 0 _ rfl) (by omega) ?_; intro w2 hB2 hG2; have hT2 := (hT.alloc _).stepX hB2 hG2; have c2 := hT2.cell x1 x3) | (go_at_call 14; refine (hexAny w1.heap.size (5 * len + 16) (a + 1) _ (by simp [HEA.out]) (f k) up zeros w2 hT2.bx hf0 hf1 (by omega)).mono ?_; rintro e w3 ⟨m, rfl, HM, hB3, hG3⟩; have hT3 := hT2.stepX hB3 hG3; have c3 := hT3.cell x1 x3) | (at_builtin; refine app1 _ rfl (.tmp 72) (.tmp 79) rfl (w1.heap.size + 1) (2 * len + 4) b _ HEB.out rfl (hT3.by_.alloc _) w3.heap.size (f k / 256) rfl (cell_box _ _ 5 0 _ rfl) (by omega) ?_; intro w4 hB4 hG4; have hT4 := (hT3.alloc _).stepY hB4 hG4; have c4 := hT4.cell x1 x3) | (at_builtin; refine app1 _ rfl (.tmp 81) (.tmp 87) rfl (w1.heap.size + 1) (2 * len + 4) (b + 1) _ (by simp [HEB.out]) rfl (hT4.by_.alloc _) w4.heap.size (f k % 256) rfl (cell_box _ _ 5 0 _ rfl) (by omega) ?_; intro w5 hB5 hG5; have hT5 := (hT4.alloc _).stepY hB5 hG5))
        go_roundg (len - (k + 1))
        case measure => omega
        case rel =>
          rw [txt_next f up zeros k h0] at hT5 HM
          rw [wnt_next] at hT5
          exact ⟨k + 1, m, b + 1 + 1, by omega, rfl, by go_num, rfl, rfl, ⟨HM.out, by rw [wnt_length]; have := HEB.out; rw [wnt_length] at this; omega⟩, hT5⟩
    · have hkl : k = len := by omega
      subst hkl
      clear hk hlt
      obtain ⟨ea, eb⟩ := HL.out
      have hlen := txt_length f up zeros k
      have hwl := wnt_length f k
      have ha : a ≤ 5 * k := by omega
      have hb : b ≤ 2 * k := by omega
      have HEA : Hid ((txt f up zeros k).length = a) := ea
      have HEB : Hid ((wnt f k).length = b) := eb
      clear hlen hwl ea eb HL
      go_upto_if 89 with fail
      go_cut [17, 18] (fun tv wv wc => ∃ a b : Nat, tv = .slice (some ⟨w1.heap.size, 0, none⟩) a (5 * k + 16) ∧ wv = .slice (some ⟨w1.heap.size + 1, 0, none⟩) b (2 * k + 4) ∧
        Hid ((fullT f k up zeros quad q0 q1 q2 q3).length = a ∧ (fullW f k quad q0 q1 q2 q3).length = b) ∧ Two w1 wc (fullT f k up zeros quad q0 q1 q2 q3) (fullW f k quad q0 q1 q2 q3) (5 * k + 16) (2 * k + 4))
      case first =>
        cases quad
        · go_wp2
          go_meet
          rw [full_false, fullW_false]
          exact ⟨a, b, rfl, rfl, ⟨HEA.out, HEB.out⟩, hT⟩
        · by_cases hk0 : 0 < k
          · go_wp2_with (at_builtin; refine app1 _ rfl (.tmp 93) (.tmp 94) rfl w1.heap.size (5 * k + 16) a _ HEA.out rfl (hT.bx.alloc _) wr.heap.size 58 rfl (cell_box _ _ 5 0 _ rfl) (by omega) ?_; intro v0 hC0 hH0; have hS0 := (hT.alloc _).stepX hC0 hH0)
            have HN0 : Hid ((txt f up zeros k ++ [58]).length = a + 1) := by rw [Hid, List.length_append, HEA.out]; rfl
            refine (decAny w1.heap.size (5 * k + 16) (a + 1) _ HN0.out q0 v0 hS0.bx g0.1 g0.2 (by omega)).mono ?_
            rintro e y0 ⟨m0, rfl, HM0, hD0, hG0⟩
            have hU0 := hS0.stepX hD0 hG0
            have hm0 : m0 ≤ a + 1 + 3 := len_dec g0 HN0.out HM0.out
            go_wp2_with (at_builtin; refine app1 _ rfl (.tmp 99) (.tmp 100) rfl w1.heap.size (5 * k + 16) m0 _ HM0.out rfl (hU0.bx.alloc _) y0.heap.size 46 rfl (cell_box _ _ 5 0 _ rfl) (by omega) ?_; intro z0 hE0 hI0; have hV0 := (hU0.alloc _).stepX hE0 hI0)
            have HP0 := len_one (c := 46) HM0.out
            refine (decAny w1.heap.size (5 * k + 16) (m0 + 1) _ HP0.out q1 z0 hV0.bx g1.1 g1.2 (by omega)).mono ?_
            rintro e y1 ⟨m1, rfl, HM1, hD1, hG1⟩
            have hU1 := hV0.stepX hD1 hG1
            have hm1 : m1 ≤ m0 + 1 + 3 := len_dec g1 HP0.out HM1.out
            go_wp2_with (at_builtin; refine app1 _ rfl (.tmp 105) (.tmp 106) rfl w1.heap.size (5 * k + 16) m1 _ HM1.out rfl (hU1.bx.alloc _) y1.heap.size 46 rfl (cell_box _ _ 5 0 _ rfl) (by omega) ?_; intro z1 hE1 hI1; have hV1 := (hU1.alloc _).stepX hE1 hI1)
            have HP1 := len_one (c := 46) HM1.out
            refine (decAny w1.heap.size (5 * k + 16) (m1 + 1) _ HP1.out q2 z1 hV1.bx g2.1 g2.2 (by omega)).mono ?_
            rintro e y2 ⟨m2, rfl, HM2, hD2, hG2⟩
            have hU2 := hV1.stepX hD2 hG2
            have hm2 : m2 ≤ m1 + 1 + 3 := len_dec g2 HP1.out HM2.out
            go_wp2_with (at_builtin; refine app1 _ rfl (.tmp 111) (.tmp 112) rfl w1.heap.size (5 * k + 16) m2 _ HM2.out rfl (hU2.bx.alloc _) y2.heap.size 46 rfl (cell_box _ _ 5 0 _ rfl) (by omega) ?_; intro z2 hE2 hI2; have hV2 := (hU2.alloc _).stepX hE2 hI2)
            have HP2 := len_one (c := 46) HM2.out
            refine (decAny w1.heap.size (5 * k + 16) (m2 + 1) _ HP2.out q3 z2 hV2.bx g3.1 g3.2 (by omega)).mono ?_
            rintro e y3 ⟨m3, rfl, HM3, hD3, hG3⟩
            have hU3 := hV2.stepX hD3 hG3
            have hm3 : m3 ≤ m2 + 1 + 3 := len_dec g3 HP2.out HM3.out
            go_wp2_with (first | (at_builtin; refine app1 _ rfl (.tmp 117) (.tmp 119) rfl (w1.heap.size + 1) (2 * k + 4) (b) _ (by simp [HEB.out]) rfl (hU3.by_.alloc _) y3.heap.size q0 rfl (cell_box _ _ 5 0 _ rfl) (by omega) ?_; intro x0 hJ0 hK0; have hX0 := (hU3.alloc _).stepY hJ0 hK0) | (at_builtin; refine app1 _ rfl (.tmp 121) (.tmp 123) rfl (w1.heap.size + 1) (2 * k + 4) (b + 1) _ (by simp [HEB.out]) rfl (hX0.by_.alloc _) x0.heap.size q1 rfl (cell_box _ _ 5 0 _ rfl) (by omega) ?_; intro x1 hJ1 hK1; have hX1 := (hX0.alloc _).stepY hJ1 hK1) | (at_builtin; refine app1 _ rfl (.tmp 125) (.tmp 127) rfl (w1.heap.size + 1) (2 * k + 4) (b + 1 + 1) _ (by simp [HEB.out]) rfl (hX1.by_.alloc _) x1.heap.size q2 rfl (cell_box _ _ 5 0 _ rfl) (by omega) ?_; intro x2 hJ2 hK2; have hX2 := (hX1.alloc _).stepY hJ2 hK2) | (at_builtin; refine app1 _ rfl (.tmp 129) (.tmp 131) rfl (w1.heap.size + 1) (2 * k + 4) (b + 1 + 1 + 1) _ (by simp [HEB.out]) rfl (hX2.by_.alloc _) x2.heap.size q3 rfl (cell_box _ _ 5 0 _ rfl) (by omega) ?_; intro x3 hJ3 hK3; have hX3 := (hX2.alloc _).stepY hJ3 hK3))
            go_meet
            have hTe := full_pos f k up zeros q0 q1 q2 q3 hk0
            exact ⟨m3, b + 1 + 1 + 1 + 1, rfl, rfl, ⟨by rw [hTe]; exact HM3.out, by rw [fullW_true, List.length_append, HEB.out]; rfl⟩, by rw [hTe, fullW_true, snoc4]; exact hX3⟩
          · have HK : Hid (k = 0) := (by omega : k = 0)
            go_wp2_with fail
            refine (decAny w1.heap.size (5 * k + 16) (a) _ HEA.out q0 wr hT.bx g0.1 g0.2 (by omega)).mono ?_
            rintro e y0 ⟨m0, rfl, HM0, hD0, hG0⟩
            have hU0 := hT.stepX hD0 hG0
            have hm0 : m0 ≤ a + 3 := len_dec g0 HEA.out HM0.out
            go_wp2_with (at_builtin; refine app1 _ rfl (.tmp 99) (.tmp 100) rfl w1.heap.size (5 * k + 16) m0 _ HM0.out rfl (hU0.bx.alloc _) y0.heap.size 46 rfl (cell_box _ _ 5 0 _ rfl) (by omega) ?_; intro z0 hE0 hI0; have hV0 := (hU0.alloc _).stepX hE0 hI0)
            have HP0 := len_one (c := 46) HM0.out
            refine (decAny w1.heap.size (5 * k + 16) (m0 + 1) _ HP0.out q1 z0 hV0.bx g1.1 g1.2 (by omega)).mono ?_
            rintro e y1 ⟨m1, rfl, HM1, hD1, hG1⟩
            have hU1 := hV0.stepX hD1 hG1
            have hm1 : m1 ≤ m0 + 1 + 3 := len_dec g1 HP0.out HM1.out
            go_wp2_with (at_builtin; refine app1 _ rfl (.tmp 105) (.tmp 106) rfl w1.heap.size (5 * k + 16) m1 _ HM1.out rfl (hU1.bx.alloc _) y1.heap.size 46 rfl (cell_box _ _ 5 0 _ rfl) (by omega) ?_; intro z1 hE1 hI1; have hV1 := (hU1.alloc _).stepX hE1 hI1)
            have HP1 := len_one (c := 46) HM1.out
            refine (decAny w1.heap.size (5 * k + 16) (m1 + 1) _ HP1.out q2 z1 hV1.bx g2.1 g2.2 (by omega)).mono ?_
            rintro e y2 ⟨m2, rfl, HM2, hD2, hG2⟩
            have hU2 := hV1.stepX hD2 hG2
            have hm2 : m2 ≤ m1 + 1 + 3 := len_dec g2 HP1.out HM2.out
            go_wp2_with (at_builtin; refine app1 _ rfl (.tmp 111) (.tmp 112) rfl w1.heap.size (5 * k + 16) m2 _ HM2.out rfl (hU2.bx.alloc _) y2.heap.size 46 rfl (cell_box _ _ 5 0 _ rfl) (by omega) ?_; intro z2 hE2 hI2; have hV2 := (hU2.alloc _).stepX hE2 hI2)
            have HP2 := len_one (c := 46) HM2.out
            refine (decAny w1.heap.size (5 * k + 16) (m2 + 1) _ HP2.out q3 z2 hV2.bx g3.1 g3.2 (by omega)).mono ?_
            rintro e y3 ⟨m3, rfl, HM3, hD3, hG3⟩
            have hU3 := hV2.stepX hD3 hG3
            have hm3 : m3 ≤ m2 + 1 + 3 := len_dec g3 HP2.out HM3.out
            go_wp2_with (first | (at_builtin; refine app1 _ rfl (.tmp 117) (.tmp 119) rfl (w1.heap.size + 1) (2 * k + 4) (b) _ (by simp [HEB.out]) rfl (hU3.by_.alloc _) y3.heap.size q0 rfl (cell_box _ _ 5 0 _ rfl) (by omega) ?_; intro x0 hJ0 hK0; have hX0 := (hU3.alloc _).stepY hJ0 hK0) | (at_builtin; refine app1 _ rfl (.tmp 121) (.tmp 123) rfl (w1.heap.size + 1) (2 * k + 4) (b + 1) _ (by simp [HEB.out]) rfl (hX0.by_.alloc _) x0.heap.size q1 rfl (cell_box _ _ 5 0 _ rfl) (by omega) ?_; intro x1 hJ1 hK1; have hX1 := (hX0.alloc _).stepY hJ1 hK1) | (at_builtin; refine app1 _ rfl (.tmp 125) (.tmp 127) rfl (w1.heap.size + 1) (2 * k + 4) (b + 1 + 1) _ (by simp [HEB.out]) rfl (hX1.by_.alloc _) x1.heap.size q2 rfl (cell_box _ _ 5 0 _ rfl) (by omega) ?_; intro x2 hJ2 hK2; have hX2 := (hX1.alloc _).stepY hJ2 hK2) | (at_builtin; refine app1 _ rfl (.tmp 129) (.tmp 131) rfl (w1.heap.size + 1) (2 * k + 4) (b + 1 + 1 + 1) _ (by simp [HEB.out]) rfl (hX2.by_.alloc _) x2.heap.size q3 rfl (cell_box _ _ 5 0 _ rfl) (by omega) ?_; intro x3 hJ3 hK3; have hX3 := (hX2.alloc _).stepY hJ3 hK3))
            go_meet
            have hTe := full_zero f k up zeros q0 q1 q2 q3 HK.out
            exact ⟨m3, b + 1 + 1 + 1 + 1, rfl, rfl, ⟨by rw [hTe]; exact HM3.out, by rw [fullW_true, List.length_append, HEB.out]; rfl⟩, by rw [hTe, fullW_true, snoc4]; exact hX3⟩
      case rest =>
        clear HEA HEB ha hb hT
        obtain ⟨a, b, rfl, rfl, HL, hT⟩ := hcut
        have hRT := round_trip f k up zeros quad q0 q1 q2 q3 hf g0 g1 g2 g3
        have hby := fullT_byte f k up zeros quad q0 q1 q2 q3 g0 g1 g2 g3
        obtain ⟨TX, hTX⟩ : ∃ T, fullT f k up zeros quad q0 q1 q2 q3 = T := ⟨_, rfl⟩
        obtain ⟨WN, hWN⟩ : ∃ T, fullW f k quad q0 q1 q2 q3 = T := ⟨_, rfl⟩
        rw [hTX] at hRT hby hT HL
        rw [hWN] at hRT hT HL
        obtain ⟨ea, eb⟩ := HL.out
        have hac := hT.bx.le
        have hbc := hT.by_.le
        rw [ea] at hac
        rw [eb] at hbc
        have hcv := run_convert_bytes_arg (P := Try.prog) wc 22 5 Try.underlying22 Try.underlying5 w1.heap.size 0 a (5 * k + 16) TX ea (fun i hi => by rw [Nat.zero_add]; exact hT.bx.cell (by omega)) 9 Try.underlying9
        have hbs := bs_strOfNums TX hby
        have hss : (strOfNums TX).size = a := by rw [strOfNums_size]; exact ea
        obtain ⟨S, hS⟩ : ∃ S, strOfNums TX = S := ⟨_, rfl⟩
        rw [hS] at hcv hbs hss
        have hSle : S.size ≤ 1048576 := by omega
        have HS : Hid (bs S = TX) := hbs
        have HRT : Hid (∀ room, (WN.length ≤ room → Rg.rgs room quad TX = (WN, true)) ∧ (room < WN.length → (Rg.rgs room quad TX).2 = false)) := hRT
        have HEB : Hid (WN.length = b) := eb
        clear hTX hWN hS hbs hss hRT hby ea eb HL hmk1 hmk2
        have hmk := run_make_row' (P := Try.prog) 22 5 (.int .u8 0) 1 Try.underlying22 Try.info5 rfl .i64 .i64 b (by omega) (by omega)
        have hb0 : Below w1.heap.size w1 (wc.alloc (.cells (madeCells #[.int .u8 0] b) 5)) := hT.bl.alloc hT.bl.size _
        have hby2 := hT.by_.alloc (.cells (madeCells #[.int .u8 0] b) 5)
        have hread := read_all S wc.heap.size b quad (wc.alloc (.cells (madeCells #[.int .u8 0] b) 5)) hSle (by omega) (dst_new wc b) WN (by rw [HS.out]; exact (HRT.out b).1 (by rw [HEB.out]; exact Nat.le_refl _)) HEB.out
        have hDN : w1.heap.size + 1 < wc.heap.size := hT.by_.lt
        go_wp2_with fail
        refine hread.mono ?_
        clear hread hmk
        rintro e w2 ⟨rfl, hrow, hO2⟩
        have hby3 := hby2.keptA hO2 hDN
        have hb2 := onlyA_below hb0 hO2 (by omega)
        clear hby2 hb0 hO2 hcv
        go_wp2
        go_loopg [24] b (fun n iv wr => ∃ (j nd : Nat), j ≤ b ∧ n = b - j ∧ iv = .int .i64 j ∧ wr = w2.drewN nd)
        case atStart => exact ⟨0, 0, Nat.zero_le _, rfl, rfl, rfl⟩
        case round =>
          obtain ⟨j, nd, hj, rfl, rfl, rfl⟩ := hrel
          by_cases hlt : j < b
          · have c1 := hrow.cellAt (i := j) (by rw [HEB.out]; exact hlt)
            have c2 := hby3.cell (i := j) (by rw [HEB.out]; exact hlt)
            have q1 : (WN.getD j 0 != WN.getD j 0) = false := by simp
            obtain ⟨z, hz⟩ : ∃ z, WN.getD j 0 = z := ⟨_, rfl⟩
            rw [hz] at c1 c2 q1
            clear hz
            go_wp2
            go_quiet (fail)
            go_wp2
            go_roundg (b - (j + 1))
            case measure => omega
            case rel => exact ⟨j + 1, _, by omega, rfl, by go_num, rfl⟩
          · by_cases hb0 : 0 < b
            · have hmk := run_make_row' (P := Try.prog) 22 5 (.int .u8 0) 1 Try.underlying22 Try.info5 rfl .i64 .i64 (b - 1) (by omega) (by omega)
              have ec : ((b - 1 : Nat) : Int) = (b : Int) - 1 := by omega
              rw [ec] at hmk
              clear ec
              have hread := read_short S w2.heap.size (b - 1) quad ((w2.drewN nd).alloc (.cells (madeCells #[.int .u8 0] (b - 1)) 5)) hSle (by omega) (dst_new (w2.drewN nd) (b - 1)) (by rw [HS.out]; exact (HRT.out (b - 1)).2 (by rw [HEB.out]; omega))
              have hb3 : Below w1.heap.size w1 ((w2.drewN nd).alloc (.cells (madeCells #[.int .u8 0] (b - 1)) 5)) := (below_drewN hb2 nd).alloc hb2.size _
              have hsz2 := hb2.size
              go_wp2_with fail
              refine hread.mono ?_
              clear hread hmk
              rintro e w3 ⟨⟨n, rfl⟩, hO3⟩
              have hb4 := onlyA_below hb3 hO3 hsz2
              go_wp2
              go_ret
              exact ⟨rfl, hb1.trans (hb4.mono hb1.size)⟩
            · go_wp2
              go_ret
              exact ⟨rfl, hb1.trans (below_drewN (hb2.mono hb1.size) nd)⟩

set_option maxRecDepth 100000 in
theorem law4_big (ad : Option Addr) (len cap : Nat) (up zeros quad : Bool) (q0 q1 q2 q3 : Int) (w : World) (hl : len ≤ 9223372036854775807) (hbig : 65536 < len) :
    Calls Try.prog 4 #[.slice ad len cap, .bool up, .bool zeros, .bool quad, .int .u8 q0, .int .u8 q1, .int .u8 q2, .int .u8 q3] w fun e w' => e = .returned (.bool true) ∧ Below w.heap.size w w' := by
  go_enter Try.func4, Try.ntmps4
  go_wp2_with fail
  refine (bytes12 ad len cap up zeros quad q0 q1 q2 q3 w hl).mono ?_
  rintro e w0 ⟨⟨bb, rfl⟩, rfl⟩
  cases bb <;> (go_wp2; go_ret; exact ⟨rfl, Below.refl _ _⟩)

/-- THE LAW's WALK, for every input. -/
theorem law4 (ad : Option Addr) (len cap : Nat) (f : Nat → Int) (up zeros quad : Bool) (q0 q1 q2 q3 : Int) (w : World) (hE : Elems w ad len (fun i => .int .u16 (f i))) (hf : ∀ i, i < len → 0 ≤ f i ∧ f i ≤ 65535) (hl : len ≤ maxLen)
    (g0 : 0 ≤ q0 ∧ q0 ≤ 255) (g1 : 0 ≤ q1 ∧ q1 ≤ 255) (g2 : 0 ≤ q2 ∧ q2 ≤ 255) (g3 : 0 ≤ q3 ∧ q3 ≤ 255) :
    Calls Try.prog 4 #[.slice ad len cap, .bool up, .bool zeros, .bool quad, .int .u8 q0, .int .u8 q1, .int .u8 q2, .int .u8 q3] w fun e w' => e = .returned (.bool true) ∧ Below w.heap.size w w' := by
  unfold maxLen at hl
  by_cases h : 65536 < len
  · exact law4_big ad len cap up zeros quad q0 q1 q2 q3 w hl h
  · exact law4_main ad len cap f up zeros quad q0 q1 q2 q3 w hE hf (by omega) g0 g1 g2 g3

end Go.Proofs.Qxb6605336a
