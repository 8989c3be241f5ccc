/-
  WALK for 'FnReadGroupsExact': the pieces' bytes (28). A buffer of ints beside the one of bytes.
-/
import Derived.Test.Qxb6605336aExB
namespace Go.Proofs.Qxb6605336a
open Go.RowKit Go.Deep Go.ChangeAt Go.WideShapes Go.ChangeShapes
open Rg (hexOk hexD digB hexRun hexVal gb gbs)

/-- A buffer of the call's own: block g, room for cap numbers, xs written. -/
def BufI (w : World) (g cap : Nat) (xs : List Int) : Prop := w.ownsRow 0 3 1 (.slice (some ⟨g, 0, none⟩) xs.length cap) xs.length (xs.map (Value.int .i64))

theorem BufI.kept {w w' : World} {g cap : Nat} {xs : List Int} (h : BufI w g cap xs) (e : w'.heap[g]? = w.heap[g]?) : BufI w' g cap xs := by
  obtain ⟨h1, h2⟩ := h
  refine ⟨h1, ?_⟩
  rcases h2 with ⟨h2, _⟩ | ⟨g', cap', cur, hv, hg, hh, r⟩
  · cases h2
  · obtain ⟨⟩ := hv
    exact .inr ⟨g, cap, cur, rfl, hg, by rw [e]; exact hh, r⟩
theorem BufI.lt {w : World} {g cap : Nat} {xs : List Int} (h : BufI w g cap xs) : g < w.heap.size := by
  obtain ⟨h1, h2⟩ := h
  rcases h2 with ⟨h2, _⟩ | ⟨g', cap', cur, hv, hg, hh, r⟩
  · cases h2
  · obtain ⟨⟩ := hv
    exact (Array.getElem?_eq_some_iff.1 hh).1
theorem BufI.alloc {w : World} {g cap : Nat} {xs : List Int} (h : BufI w g cap xs) (o : Obj) : BufI (w.alloc o) g cap xs := h.kept (Below.heap_alloc _ _ _ h.lt)
theorem BufI.below {w w' : World} {g cap : Nat} {xs : List Int} (h : BufI w g cap xs) (hb : Below w.heap.size w w') : BufI w' g cap xs := h.kept (hb.block g h.lt)
theorem BufI.other {w w' : World} {g g' cap : Nat} {xs : List Int} (h : BufI w g cap xs) (hg : w.grownBy w' (some g')) (hn : g ≠ g') : BufI w' g cap xs := h.kept (hg.block g h.lt (by simpa using hn))

/-- 'append(buf, c)' where there is room: as a law for the walk. -/
theorem appI (w : World) {ops : Array Oper} {rest : List Oper} {o : Oper} {a : Act} {Q : Exit → Act → World → Prop}
    (hgd : o.guard = none) (s x : Operand) (hop : o.op = Op.call { callee := Callee.builtin Builtin.append, args := #[s, x], argTypes := #[36, 36] })
    (g cap n : Nat) (xs : List Int) (hn : xs.length = n) (hs : a.eval s = .slice (some ⟨g, 0, none⟩) n cap) (hB : BufI w g cap xs) (b : Nat) (c : Int) (hx : a.eval x = .slice (some ⟨b, 0, none⟩) 1 1) (hc : w.cell? ⟨b, 0, none⟩ = some (.int .i64 c)) (hroom : n + 1 ≤ cap)
    (hK : ∀ w', BufI w' g cap (xs ++ [c]) → w.grownBy w' (some g) → wpList Try.prog ops Q rest (a.put o.dst (.slice (some ⟨g, 0, none⟩) (n + 1) cap)) w') :
    wpList Try.prog ops Q (o :: rest) a w := by
  subst hn
  obtain ⟨i0, hi, hz0, hz1, hz2⟩ := info_parts Try.info3
  refine wpList_append_fits w hgd s x 36 hop 0 3 i0 1 Try.underlying36 hi hz1 g xs.length cap (xs.map (Value.int .i64)) hs hB ⟨b, 0, none⟩ 1 1 [.int .i64 c] hx rfl ?_ ?_ hroom ?_
  · intro j u hj
    match j, hj with
    | 0, hj => simp at hj; subst hj; simpa [Addr.add] using hc
  · intro u hu
    simp at hu
    subst hu
    rfl
  · intro w' h1 h2
    refine hK w' ?_ h2
    unfold BufI
    simpa using h1

theorem BufI.cell {w : World} {g cap : Nat} {xs : List Int} (h : BufI w g cap xs) {i : Nat} (hi : i < xs.length) : w.cell? ⟨g, i, none⟩ = some (.int .i64 (xs.getD i 0)) := by
  obtain ⟨h1, h2⟩ := h
  rcases h2 with ⟨h2, _⟩ | ⟨g', cap', cur, hv, hg, hh, r1, r2, r3, r4⟩
  · cases h2
  · obtain ⟨⟩ := hv
    have hc : cur[i]? = some (.int .i64 (xs.getD i 0)) := by
      have e : cur.toList[i]? = (cur.toList.take (xs.length * 1))[i]? := by rw [List.getElem?_take, if_pos (by omega)]
      rw [← Array.getElem?_toList, e, r4, List.getElem?_map, List.getElem?_eq_getElem hi]
      simp [List.getD, hi]
    simp [World.cell?, hh, hc]
theorem BufI.le {w : World} {g cap : Nat} {xs : List Int} (h : BufI w g cap xs) : xs.length ≤ cap := by
  obtain ⟨h1, h2⟩ := h
  rcases h2 with ⟨h2, _⟩ | ⟨g', cap', cur, hv, hg, hh, r1, r2, r3, r4⟩
  · cases h2
  · obtain ⟨⟩ := hv
    exact r1
theorem bufI_new (w : World) (cap : Nat) (hc : cap ≤ maxLen) : BufI (w.alloc (.cells (madeCells #[.int .i64 0] cap) 3)) w.heap.size cap [] :=
  ⟨rfl, .inr ⟨w.heap.size, cap, _, rfl, Nat.zero_le _, blk_alloc_new _ _, Nat.zero_le _, hc, by simp [size_madeCells], by simp⟩⟩

theorem make_bufI (cap : Nat) (C : Int) (hC : C = (cap : Int)) (h : cap ≤ 1048577) (w : World) : (Instr.makeSlice 36 (.int .i64 0) (.int .i64 C)).run Try.prog w = .ok (.slice (some ⟨w.heap.size, 0, none⟩) 0 cap) (w.alloc (.cells (madeCells #[.int .i64 0] cap) 3)) := by
  subst hC
  obtain ⟨i0, hi, hz0, hz1, hz2⟩ := info_parts Try.info3
  have hr := run_make (P := Try.prog) w 36 3 i0 (.int .i64 0) Try.underlying36 hi hz0 .i64 .i64 0 (cap : Int) (by omega) (by omega) (by rw [hz2]; omega) (by omega)
  rw [hz1, Nat.mul_one, Int.toNat_natCast] at hr
  exact hr


theorem Buf.drewN {w : World} {g cap n : Nat} {xs : List Int} (h : Buf w g cap xs) : Buf (w.drewN n) g cap xs := h
theorem cell_boxN (w : World) (n : Nat) (c : Array Value) (t : TypeId) (i : Nat) (v : Value) (h : c[i]? = some v) : ((w.drewN n).alloc (.cells c t)).cell? ⟨w.heap.size, i, none⟩ = some v := cell_box (w.drewN n) c t i v h
/-- Byte k of a slice: its address. -/
theorem byte_at {w : World} {ad : Option Addr} {len : Nat} {f : Nat → Value} (cap : Nat) (hE : Elems w ad len f) {k : Nat} (hk : k < len) :
    ∃ a : Addr, a.block < w.heap.size ∧ (∀ w', (Instr.indexAt 22 (.slice ad len cap) (.int .i64 (k : Int))).run Try.prog w' = .ok (.pointer (some a)) w') ∧ w.cell? a = some (f k) := by
  cases ad with
  | none => have := hE.1 rfl; omega
  | some x =>
    refine ⟨x.add k, lt_of_cell (hE.2 x rfl k hk), fun w' => ?_, hE.2 x rfl k hk⟩
    have hs : (sizeOf (Try.prog.elem 22)).run Try.prog w' = .ok 1 w' := by kernel_rfl
    rw [run_indexAt_slice w' 22 x len cap .i64 (k : Int) (by kernel_rfl), if_pos (by omega), hs]
    simp

/-- The two lists of places cut s into the pieces PS. -/
structure CutIs (s : ByteArray) (st en : List Int) (PS : List (List Int)) : Prop where
  l1 : st.length = PS.length
  l2 : en.length = PS.length
  each : ∀ j, j < PS.length → ∃ a b : Nat, st.getD j 0 = (a : Int) ∧ en.getD j 0 = (b : Int) ∧ a ≤ b ∧ b ≤ s.size ∧ bs (s.extract a b) = PS.getD j []

theorem make_buf2 (cap : Nat) (C : Int) (hC : C = (cap : Int)) (h : cap ≤ 4194304) (w : World) : (Instr.makeSlice 22 (.int .i64 0) (.int .i64 C)).run Try.prog w = .ok (.slice (some ⟨w.heap.size, 0, none⟩) 0 cap) (w.alloc (.cells (madeCells #[.int .u8 0] cap) 5)) := by
  subst hC
  obtain ⟨i0, hi, hz0, hz1, hz2⟩ := info_parts Try.info5
  have hr := run_make (P := Try.prog) w 22 5 i0 (.int .u8 0) Try.underlying22 hi hz0 .i64 .i64 0 (cap : Int) (by omega) (by omega) (by rw [hz2]; omega) (by omega)
  rw [hz1, Nat.mul_one, Int.toNat_natCast] at hr
  exact hr

theorem run_cut (s : ByteArray) (a b : Nat) (h1 : a ≤ b) (h2 : b ≤ s.size) (w : World) : (Instr.sliceAt 9 (.string s) (some (.int .i64 (a : Int))) (some (.int .i64 (b : Int))) none).run Try.prog w = .ok (.string (s.extract a b)) w := by
  rw [run_sliceAt_string w 9 _ _ _ _ Try.underlying9]
  rw [run_slice_string_if w 9 s .i64 .i64 (a : Int) (b : Int) Try.underlying9]
  simp [h1, h2]

theorem gbs_take (PS : List (List Int)) (j : Nat) (hj : j < PS.length) : gbs (PS.take (j + 1)) = gbs (PS.take j) ++ gb (PS.getD j []) := by
  induction PS generalizing j with
  | nil => simp at hj
  | cons p ps ih =>
    cases j with
    | zero => simp [gbs, List.getD]
    | succ j =>
      have := ih j (by simpa using hj)
      simp only [List.take_succ_cons, gbs, this, List.append_assoc]
      simp [List.getD]
theorem gbs_length (PS : List (List Int)) : (gbs PS).length = 2 * PS.length := by
  induction PS with
  | nil => rfl
  | cons p ps ih => simp only [gbs, List.length_append, ih, List.length_cons]; simp [gb]; omega

set_option maxRecDepth 100000 in
set_option maxHeartbeats 2000000 in
theorem bytes28 (s : ByteArray) (SB EB cS cE W : Nat) (st en : List Int) (PS : List (List Int)) (tad : Option Addr) (tcap : Nat) (tl : List Int) (w : World) (hs : s.size ≤ 1048576) (hC : CutIs s st en PS) (hS : BufI w SB cS st) (hE : BufI w EB cE en) (hW : W ≤ PS.length) (hWb : W ≤ 1048576) (htl : tl.length ≤ 4)
    (hT : Elems w tad tl.length (fun i => .int .u8 (tl.getD i 0))) :
    Calls Try.prog 28 #[.string s, .slice (some ⟨SB, 0, none⟩) st.length cS, .slice (some ⟨EB, 0, none⟩) en.length cE, .int .i64 W, .slice tad tl.length tcap] w fun e w' =>
      ∃ m, e = .returned (.slice (some ⟨w.heap.size, 0, none⟩) m (2 * W + tl.length)) ∧ Hid ((gbs (PS.take W) ++ tl).length = m) ∧ Buf w' w.heap.size (2 * W + tl.length) (gbs (PS.take W) ++ tl) ∧ Below w.heap.size w w' := by
  have hmk := make_buf2 (2 * W + tl.length) (2 * (W : Int) + (tl.length : Int)) (by omega) (by omega)
  have hl1 := hC.l1
  have hl2 := hC.l2
  have HL : Hid (st.length = PS.length ∧ en.length = PS.length) := ⟨hl1, hl2⟩
  have hWs : W ≤ st.length := by omega
  have hWe : W ≤ en.length := by omega
  clear hl1 hl2
  go_enter Try.func28, Try.ntmps28
  go_wp2
  go_loopg [11, 12] W (fun g ov jv wr => ∃ (j m : Nat), j ≤ W ∧ g = W - j ∧ jv = .int .i64 j ∧ ov = .slice (some ⟨w.heap.size, 0, none⟩) m (2 * W + tl.length) ∧ Hid ((gbs (PS.take j)).length = m) ∧ Buf wr w.heap.size (2 * W + tl.length) (gbs (PS.take j)) ∧ Below w.heap.size w wr)
  case atStart => exact ⟨0, 0, Nat.zero_le _, rfl, rfl, rfl, rfl, buf_new w _ (by unfold maxLen; omega), (Below.refl _ _).alloc (Nat.le_refl _) _⟩
  case round =>
    clear hmk
    obtain ⟨j, m, hj, rfl, rfl, rfl, HM, hB, hbl⟩ := hrel
    by_cases hlt : j < W
    · have hjP : j < PS.length := by omega
      obtain ⟨a, b, ea, eb, hab, hbs, hpc⟩ := hC.each j hjP
      have c1 := (hS.below hbl).cell (i := j) (by rw [HL.out.1]; exact hjP)
      have c2 := (hE.below hbl).cell (i := j) (by rw [HL.out.2]; exact hjP)
      rw [ea] at c1
      rw [eb] at c2
      have hsl := run_cut s a b hab hbs
      have hpsz : (s.extract a b).size ≤ 1048576 := by rw [ByteArray.size_extract]; omega
      obtain ⟨q, hq⟩ : ∃ q, s.extract a b = q := ⟨_, rfl⟩
      rw [hq] at hsl hpsz hpc
      have hval := fun n => val38 q (wr.drewN n) hpsz
      rw [hpc] at hval
      have hml : m = 2 * j := by have := HM.out; rw [gbs_length, List.length_take] at this; omega
      have hm2 : m ≤ 2 * j := by omega
      have hVb := Rg.hexVal_small (PS.getD j []) (hexRun (PS.getD j []) 4) (Rg.hexRun_le _ 4).1
      have hg := gbs_take PS j hjP
      unfold gb at hg
      obtain ⟨V, hV⟩ : ∃ V, hexVal (PS.getD j []) (hexRun (PS.getD j []) 4) = V := ⟨_, rfl⟩
      rw [hV] at hval hVb hg
      obtain ⟨hV0, hV1⟩ := hVb
      have HG : Hid (gbs (PS.take (j + 1)) = gbs (PS.take j) ++ [V / 256, V % 256]) := hg
      have HVAL : Hid (∀ n, Calls Try.prog 38 #[.string q] (wr.drewN n) fun e w' => e = .returned (.int .u16 V) ∧ w' = wr.drewN n) := hval
      clear hq hpc hV hg ea eb hval hml
      go_wp2
      go_quiet ((go_at_call 38; refine (HVAL.out _).mono ?_; rintro e w'' ⟨rfl, rfl⟩; exact ⟨rfl, _, rfl⟩))
      have HN0 : Hid ((gbs (PS.take j)).length = m) := HM
      have HN1 : Hid ((gbs (PS.take j) ++ [V / 256]).length = m + 1) := len_one HM.out
      go_wp2_with (first | (at_builtin; refine app1 _ rfl (.tmp 37) (.tmp 41) rfl w.heap.size (2 * W + tl.length) m _ HN0.out rfl (hB.drewN.alloc _) wr.heap.size (V / 256) rfl (cell_boxN _ _ _ 5 0 _ rfl) (by omega) ?_; intro w1 hB1 hG1; have hbl1 := below_grown ((below_drewN hbl _).alloc hbl.size _) hG1 ((below_drewN hbl _).alloc hbl.size _).size (Nat.le_refl _)) | (at_builtin; refine app1 _ rfl (.tmp 43) (.tmp 46) rfl w.heap.size (2 * W + tl.length) (m + 1) _ HN1.out rfl (hB1.alloc _) w1.heap.size (V % 256) rfl (cell_box _ _ 5 0 _ rfl) (by omega) ?_; intro w2 hB2 hG2; have hbl2 := below_grown (hbl1.alloc hbl1.size _) hG2 (hbl1.alloc hbl1.size _).size (Nat.le_refl _)))
      go_roundg (W - (j + 1))
      case measure => omega
      case rel =>
        rw [List.append_assoc] at hB2
        have hg := HG.out
        have hB3 : Buf w2 w.heap.size (2 * W + tl.length) (gbs (PS.take (j + 1))) := by rw [hg]; exact hB2
        exact ⟨j + 1, m + 1 + 1, by omega, rfl, by go_num, rfl, by rw [Hid, hg, List.length_append, HM.out]; rfl, hB3, hbl2⟩
    · have hjW : j = W := by omega
      subst hjW
      have hmj : m = 2 * j := by have := HM.out; rw [gbs_length, List.length_take] at this; omega
      clear hj hlt hC hS hE HL hWs hWe
      go_wp2
      go_loopg [11, 14] tl.length (fun g ov iv wq => ∃ (i n : Nat), i ≤ tl.length ∧ g = tl.length - i ∧ iv = .int .i64 i ∧ ov = .slice (some ⟨w.heap.size, 0, none⟩) n (2 * j + tl.length) ∧ n = m + i ∧ Buf wq w.heap.size (2 * j + tl.length) (gbs (PS.take j) ++ tl.take i) ∧ Below w.heap.size w wq)
      case atStart => exact ⟨0, m, Nat.zero_le _, rfl, rfl, rfl, rfl, by simpa using hB, hbl⟩
      case round =>
        clear hB hbl
        obtain ⟨i, n, hi, rfl, rfl, rfl, hn, hB, hbl⟩ := hrel
        have HNn : Hid (n = m + i) := hn
        have hnb : n ≤ 2 * j + i := by omega
        clear hn hmj
        by_cases hlt : i < tl.length
        · obtain ⟨x, x1, x2, x3⟩ := byte_at tcap hT hlt
          have c1 := (hbl.cell x1).trans x3
          have HN0 : Hid ((gbs (PS.take j) ++ tl.take i).length = n) := by rw [Hid, List.length_append, HM.out, List.length_take, HNn.out]; omega
          have hTs : tl.take (i + 1) = tl.take i ++ [tl.getD i 0] := by
            rw [List.take_succ_eq_append_getElem hlt]; simp [List.getD, hlt]
          obtain ⟨c, hc⟩ : ∃ c, tl.getD i 0 = c := ⟨_, rfl⟩
          rw [hc] at c1 hTs
          have HTS : Hid (tl.take (i + 1) = tl.take i ++ [c]) := hTs
          clear hc hTs x3
          go_wp2_with (at_builtin; refine app1 _ rfl (.tmp 54) (.tmp 59) rfl w.heap.size (2 * j + tl.length) n _ HN0.out rfl (hB.alloc _) wr.heap.size c rfl (cell_box _ _ 5 0 _ rfl) (by omega) ?_; intro w1 hB1 hG1; have hbl1 := below_grown (hbl.alloc hbl.size _) hG1 (hbl.alloc hbl.size _).size (Nat.le_refl _))
          go_roundg (tl.length - (i + 1))
          case measure => omega
          case rel => exact ⟨i + 1, n + 1, by omega, rfl, by go_num, rfl, by have := HNn.out; omega, by rw [HTS.out, ← List.append_assoc]; exact hB1, hbl1⟩
        · have hil : i = tl.length := by omega
          have hBf : Buf wr w.heap.size (2 * j + tl.length) (gbs (PS.take j) ++ tl) := by
            rw [hil, List.take_length] at hB; exact hB
          go_wp2
          go_ret
          exact ⟨n, rfl, by rw [Hid, List.length_append, HM.out, HNn.out, hil], hBf, hbl⟩

end Go.Proofs.Qxb6605336a
