/-
  WALK for 'FnReadGroupsExact': the model (11).
-/
import Derived.Test.Qxb6605336aExC
namespace Go.Proofs.Qxb6605336a
open Go.RowKit Go.Deep Go.ChangeAt Go.WideShapes Go.ChangeShapes
open Rg (hexOk hexD digB hexRun hexVal gb gbs pcs lead grp model)

/-! ### the cutting, plainly -/
theorem pcs_app (p r : List Int) (h : ∀ c ∈ p, c ≠ 58) : pcs (p ++ 58 :: r) = p :: pcs r := by
  induction p with
  | nil => simp [pcs]
  | cons c p ih =>
    have hc : c ≠ 58 := h c (by simp)
    have := ih (fun x hx => h x (by simp [hx]))
    simp [pcs, hc, this]
theorem pcs_one (p : List Int) (h : ∀ c ∈ p, c ≠ 58) : pcs p = [p] := by
  induction p with
  | nil => rfl
  | cons c p ih =>
    have hc : c ≠ 58 := h c (by simp)
    have := ih (fun x hx => h x (by simp [hx]))
    simp [pcs, hc, this]

theorem take_no {s : ByteArray} {c i : Nat} (hi : i ≤ s.size) (h : ∀ j, c ≤ j → j < i → bt s j ≠ 58) : ∀ x ∈ ((bs s).drop c).take (i - c), x ≠ 58 := by
  intro x hx
  rw [List.mem_iff_getElem] at hx
  obtain ⟨j, hj, rfl⟩ := hx
  have hjl : j < i - c := by rw [List.length_take] at hj; omega
  have hlt : c + j < (bs s).length := by rw [bs_length]; omega
  have e : (((bs s).drop c).take (i - c))[j] = bt s (c + j) := by
    rw [List.getElem_take, List.getElem_drop, ← bs_getD, List.getD, List.getElem?_eq_getElem hlt]
    rfl
  rw [e]
  exact h (c + j) (by omega) (by omega)

theorem bs_extract2 (s : ByteArray) (a b : Nat) (h : b ≤ s.size) : bs (s.extract a b) = ((bs s).drop a).take (b - a) := by
  have h2 : b ≤ s.data.size := h
  simp [bs]

/-- Where the scan stands: i bytes seen, the piece in hand begins at c. -/
structure Scan (s : ByteArray) (i c : Nat) (st en : List Int) : Prop where
  ci : c ≤ i
  il : i ≤ s.size
  no : ∀ j, c ≤ j → j < i → bt s j ≠ 58
  few : st.length ≤ i
  cut : ∃ PS, CutIs s st en PS ∧ PS ++ pcs ((bs s).drop c) = pcs (bs s)

theorem scan_start (s : ByteArray) : Scan s 0 0 [] [] :=
  ⟨Nat.le_refl _, Nat.zero_le _, fun j _ h => absurd h (Nat.not_lt_zero _), Nat.le_refl _, [], ⟨rfl, rfl, fun j hj => absurd hj (Nat.not_lt_zero _)⟩, by simp⟩

theorem cut_snoc {s : ByteArray} {st en : List Int} {PS : List (List Int)} {a b : Nat} {p : List Int} (h : CutIs s st en PS) (hab : a ≤ b) (hb : b ≤ s.size) (hp : bs (s.extract a b) = p) : CutIs s (st ++ [(a : Int)]) (en ++ [(b : Int)]) (PS ++ [p]) := by
  refine ⟨by simp [h.l1], by simp [h.l2], ?_⟩
  intro j hj
  have h1 := h.l1
  have h2 := h.l2
  rw [List.length_append] at hj
  by_cases hlt : j < PS.length
  · obtain ⟨x, y, hx, hy, hxy, hys, hbs⟩ := h.each j hlt
    refine ⟨x, y, ?_, ?_, hxy, hys, ?_⟩
    · rw [← hx]; simp only [List.getD]; rw [List.getElem?_append_left (by omega)]
    · rw [← hy]; simp only [List.getD]; rw [List.getElem?_append_left (by omega)]
    · rw [hbs]; simp only [List.getD]; rw [List.getElem?_append_left hlt]
  · have e : j = PS.length := by simp at hj; omega
    refine ⟨a, b, ?_, ?_, hab, hb, ?_⟩
    · rw [e, ← h1]; simp [List.getD]
    · rw [e, ← h2]; simp [List.getD]
    · rw [hp, e]; simp [List.getD]

theorem scan_plain {s : ByteArray} {i c : Nat} {st en : List Int} (h : Scan s i c st en) (hi : i < s.size) (hb : bt s i ≠ 58) : Scan s (i + 1) c st en := by
  refine ⟨by have := h.ci; omega, by omega, fun j h1 h2 => ?_, by have := h.few; omega, h.cut⟩
  by_cases e : j = i
  · rw [e]; exact hb
  · exact h.no j h1 (by omega)

theorem scan_colon {s : ByteArray} {i c : Nat} {st en : List Int} (h : Scan s i c st en) (hi : i < s.size) (hb : bt s i = 58) : Scan s (i + 1) (i + 1) (st ++ [(c : Int)]) (en ++ [(i : Int)]) := by
  obtain ⟨PS, hC, hP⟩ := h.cut
  have hci := h.ci
  refine ⟨Nat.le_refl _, by omega, fun j h1 h2 => by omega, by have := h.few; simp; omega, PS ++ [((bs s).drop c).take (i - c)], cut_snoc hC hci (by omega) (bs_extract2 s c i (by omega)), ?_⟩
  rw [← hP]
  have e : (bs s).drop c = ((bs s).drop c).take (i - c) ++ 58 :: (bs s).drop (i + 1) := by
    have h1 := bs_drop s i hi
    rw [hb] at h1
    rw [← h1]
    have h2 : (bs s).drop i = ((bs s).drop c).drop (i - c) := by rw [List.drop_drop]; congr 1; omega
    rw [h2, List.take_append_drop]
  conv => rhs; rw [e]
  rw [pcs_app _ _ (take_no (by omega) h.no)]
  simp

theorem scan_end {s : ByteArray} {i c : Nat} {st en : List Int} (h : Scan s i c st en) (hi : i = s.size) : CutIs s (st ++ [(c : Int)]) (en ++ [(s.size : Int)]) (pcs (bs s)) := by
  obtain ⟨PS, hC, hP⟩ := h.cut
  have hci := h.ci
  have hno := take_no h.il h.no
  have e : ((bs s).drop c).take (i - c) = (bs s).drop c := List.take_of_length_le (by rw [List.length_drop, bs_length]; omega)
  rw [e] at hno
  rw [← hP, pcs_one _ hno]
  refine cut_snoc hC (by omega) (Nat.le_refl _) ?_
  rw [bs_extract]

theorem lead_is (PS : List (List Int)) (g : Nat) (h1 : g ≤ PS.length) (h2 : ∀ j, j < g → grp (PS.getD j []) = true) (h3 : g = PS.length ∨ grp (PS.getD g []) = false) : lead PS = g := by
  induction PS generalizing g with
  | nil => simp at h1; subst h1; rfl
  | cons p ps ih =>
    cases g with
    | zero =>
      rcases h3 with h | h
      · simp at h
      · have : grp p = false := by simpa [List.getD] using h
        simp [lead, this]
    | succ g =>
      have hp : grp p = true := by simpa [List.getD] using h2 0 (by omega)
      have := ih g (by simpa using h1) (fun j hj => by simpa [List.getD] using h2 (j + 1) (by omega)) (by
        rcases h3 with h | h
        · exact .inl (by simpa using h)
        · exact .inr (by simpa [List.getD] using h))
      simp [lead, hp, this]

theorem pcs_length (l : List Int) : (pcs l).length ≤ l.length + 1 := by
  induction l with
  | nil => simp [pcs]
  | cons c l ih =>
    simp only [pcs]
    split
    · simp; omega
    · split
      · simp
      · rename_i p ps h
        rw [h] at ih
        simp at ih ⊢
        omega

/-- Two buffers of ints. -/
structure TwoI (w wr : World) (X Y : List Int) (c : Nat) : Prop where
  bx : BufI wr w.heap.size c X
  by_ : BufI wr (w.heap.size + 1) c Y
  bl : Below w.heap.size w wr

theorem twoI_new (w : World) (c : Nat) (hc : c ≤ maxLen) : TwoI w ((w.alloc (.cells (madeCells #[.int .i64 0] c) 3)).alloc (.cells (madeCells #[.int .i64 0] c) 3)) [] [] c := by
  have hs : (w.alloc (.cells (madeCells #[.int .i64 0] c) 3)).heap.size = w.heap.size + 1 := by simp
  have hb := bufI_new (w.alloc (.cells (madeCells #[.int .i64 0] c) 3)) c hc
  rw [hs] at hb
  exact ⟨(bufI_new w c hc).alloc _, hb, ((Below.refl _ _).alloc (Nat.le_refl _) _).alloc (by omega) _⟩
theorem TwoI.alloc {w wr : World} {X Y : List Int} {c : Nat} (h : TwoI w wr X Y c) (o : Obj) : TwoI w (wr.alloc o) X Y c := ⟨h.bx.alloc o, h.by_.alloc o, h.bl.alloc h.bl.size o⟩
theorem TwoI.stepX {w wr w' : World} {X X' Y : List Int} {c : Nat} (h : TwoI w wr X Y c) (hB : BufI w' w.heap.size c X') (hg : wr.grownBy w' (some w.heap.size)) : TwoI w w' X' Y c :=
  ⟨hB, h.by_.other hg (by omega), below_grown h.bl hg h.bl.size (Nat.le_refl _)⟩
theorem TwoI.stepY {w wr w' : World} {X Y Y' : List Int} {c : Nat} (h : TwoI w wr X Y c) (hB : BufI w' (w.heap.size + 1) c Y') (hg : wr.grownBy w' (some (w.heap.size + 1))) : TwoI w w' X Y' c :=
  ⟨h.bx.other hg (by omega), hB, below_grown h.bl hg h.bl.size (by omega)⟩
theorem TwoI.drewN {w wr : World} {X Y : List Int} {c : Nat} (h : TwoI w wr X Y c) (n : Nat) : TwoI w (wr.drewN n) X Y c := ⟨h.bx, h.by_, below_drewN h.bl n⟩
theorem TwoI.below {w wr w' : World} {X Y : List Int} {c : Nat} (h : TwoI w wr X Y c) (hb : Below wr.heap.size wr w') : TwoI w w' X Y c := ⟨h.bx.below hb, h.by_.below hb, h.bl.trans (hb.mono h.bl.size)⟩

/-- What the model hands back: the count, success, the bytes. -/
def ModelIs (e : Ending) (w' : World) (M : List Int × Bool) : Prop :=
  ∃ (ad : Option Addr) (cap : Nat), e = .returned (.tuple #[.int .i64 (M.1.length : Nat), .bool M.2, .slice ad M.1.length cap]) ∧ Elems w' ad M.1.length (fun i => .int .u8 (M.1.getD i 0))

theorem model_of {e : Ending} {w' : World} {M : List Int × Bool} {g m cap : Nat} {n : Int} (hm : M.1.length = m) (hn : n = (m : Int)) (he : e = .returned (.tuple #[.int .i64 n, .bool M.2, .slice (some ⟨g, 0, none⟩) m cap])) (hB : Buf w' g cap M.1) : ModelIs e w' M := by
  subst hm hn
  refine ⟨_, _, he, (fun h => by cases h), fun x hx i hi => ?_⟩
  cases hx
  rw [add_plain, Nat.zero_add]
  exact hB.cell hi

theorem bytesAny (s : ByteArray) (SB EB cS cE W n1 n2 tn : Nat) (WI : Int) (st en : List Int) (PS : List (List Int)) (tad : Option Addr) (tcap : Nat) (tl : List Int) (w : World) (h1 : st.length = n1) (h2 : en.length = n2) (hWI : WI = (W : Int)) (htn : tl.length = tn) (hs : s.size ≤ 1048576) (hC : CutIs s st en PS) (hS : BufI w SB cS st) (hE : BufI w EB cE en) (hW : W ≤ PS.length) (hWb : W ≤ 1048576) (htl : tl.length ≤ 4)
    (hT : Elems w tad tl.length (fun i => .int .u8 (tl.getD i 0))) :
    Calls Try.prog 28 #[.string s, .slice (some ⟨SB, 0, none⟩) n1 cS, .slice (some ⟨EB, 0, none⟩) n2 cE, .int .i64 WI, .slice tad tn tcap] w fun e w' =>
      ∃ m cap g, e = .returned (.slice (some ⟨g, 0, none⟩) m cap) ∧ Hid ((gbs (PS.take W) ++ tl).length = m) ∧ Buf w' g cap (gbs (PS.take W) ++ tl) ∧ Below w.heap.size w w' := by
  subst h1 h2 hWI htn
  refine (bytes28 s SB EB cS cE W st en PS tad tcap tl w hs hC hS hE hW hWb htl hT).mono ?_
  rintro e w' ⟨m, rfl, h1, h2, h3⟩
  exact ⟨m, _, _, rfl, h1, h2, h3⟩

theorem no_tail (w : World) : Elems w none ([] : List Int).length (fun i => .int .u8 (([] : List Int).getD i 0)) := ⟨fun _ => rfl, fun _ _ _ hi => absurd hi (Nat.not_lt_zero _)⟩

section
variable {ip : Bool} {r : Nat} {PS : List (List Int)}
theorem model_all_ok (h : lead PS = PS.length) (h2 : 2 * PS.length ≤ r) : model ip r PS = (gbs PS, true) := by unfold model; rw [if_pos h, if_pos h2]
theorem model_all_no (h : lead PS = PS.length) (h2 : ¬ 2 * PS.length ≤ r) : model ip r PS = (gbs (PS.take (r / 2)), false) := by unfold model; rw [if_pos h, if_neg h2]
theorem model_quad (h : ¬ lead PS = PS.length) {q : List Int} (h2 : Rg.endQ ip r PS = some q) : model ip r PS = (gbs (PS.take (lead PS)) ++ q, true) := by unfold model; rw [if_neg h, h2]
theorem model_rest (h : ¬ lead PS = PS.length) (h2 : Rg.endQ ip r PS = none) : model ip r PS = (gbs (PS.take (Rg.wide ip r PS)), false) := by unfold model; rw [if_neg h, h2]
end

end Go.Proofs.Qxb6605336a
