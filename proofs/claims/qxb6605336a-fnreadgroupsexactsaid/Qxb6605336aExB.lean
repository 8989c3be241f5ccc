/-
  WALK for 'FnReadGroupsExact': the model's dotted quad (29).
-/
import Derived.Test.Qxb6605336aExA
namespace Go.Proofs.Qxb6605336a
open Go.RowKit Go.Deep Go.ChangeAt Go.WideShapes Go.ChangeShapes
open Rg (hexOk hexD digB hexRun hexVal qc)

theorem two_zero (w : World) : ((w.alloc (.cells #[.int .u8 0, .int .u8 0, .int .u8 0, .int .u8 0] 52)).alloc (.cells #[.int .u8 0, .int .u8 0, .int .u8 0, .int .u8 0] 52)).rowIs w.heap.size 52 4 (fun _ => .int .u8 0) ∧
    ((w.alloc (.cells #[.int .u8 0, .int .u8 0, .int .u8 0, .int .u8 0] 52)).alloc (.cells #[.int .u8 0, .int .u8 0, .int .u8 0, .int .u8 0] 52)).rowIs (w.heap.size + 1) 52 4 (fun _ => .int .u8 0) := by
  refine ⟨(row_zero w).alloc _, ?_⟩
  have h := row_zero (w.alloc (.cells #[.int .u8 0, .int .u8 0, .int .u8 0, .int .u8 0] 52))
  simpa using h

/-! ### what a byte does -/
theorem qz_end0 {k d : Nat} {v : Int} {l : List Int} (hl : l = []) (h : d = 0 ∨ k = 0) : qc k v d l = none := by
  subst hl; simp only [qc]; rw [if_pos h]
theorem qz_end {k d : Nat} {v : Int} {l : List Int} (hl : l = []) (h : ¬ (d = 0 ∨ k = 0)) : qc k v d l = if k = 1 then some [v] else none := by
  subst hl; simp only [qc]; rw [if_neg h]
theorem qz_dot0 {k d : Nat} {v c : Int} {l r : List Int} (hl : l = c :: r) (hc : c = 46) (h : d = 0 ∨ k = 0) : qc k v d l = none := by
  subst hl; simp only [qc]; rw [if_pos hc, if_pos h]
theorem qz_dot {k d : Nat} {v c : Int} {l r : List Int} (hl : l = c :: r) (hc : c = 46) (h : ¬ (d = 0 ∨ k = 0)) : qc k v d l = (qc (k - 1) 0 0 r).map (fun q => v :: q) := by
  subst hl; simp only [qc]; rw [if_pos hc, if_neg h]
theorem qz_bad {k d : Nat} {v c : Int} {l r : List Int} (hl : l = c :: r) (hc : c ≠ 46) (h : digB c = false) : qc k v d l = none := by
  subst hl; simp only [qc]; rw [if_neg hc, if_neg (by rw [h]; decide)]
theorem qz_lead {k d : Nat} {v c : Int} {l r : List Int} (hl : l = c :: r) (hc : c ≠ 46) (h : digB c = true) (h1 : d = 1 ∧ v = 0) : qc k v d l = none := by
  subst hl; simp only [qc]; rw [if_neg hc, if_pos h, if_pos h1]
theorem qz_long {k d : Nat} {v c : Int} {l r : List Int} (hl : l = c :: r) (hc : c ≠ 46) (h : digB c = true) (h1 : ¬ (d = 1 ∧ v = 0)) (h3 : d = 3) : qc k v d l = none := by
  subst hl; simp only [qc]; rw [if_neg hc, if_pos h, if_neg h1, if_pos h3]
theorem qz_big {k d : Nat} {v c : Int} {l r : List Int} (hl : l = c :: r) (hc : c ≠ 46) (h : digB c = true) (h1 : ¬ (d = 1 ∧ v = 0)) (h3 : ¬ d = 3) (hb : 255 < v * 10 + (c - 48)) : qc k v d l = none := by
  subst hl; simp only [qc]; rw [if_neg hc, if_pos h, if_neg h1, if_neg h3, if_pos hb]
theorem qz_next {k d : Nat} {v c : Int} {l r : List Int} (hl : l = c :: r) (hc : c ≠ 46) (h : digB c = true) (h1 : ¬ (d = 1 ∧ v = 0)) (h3 : ¬ d = 3) (hb : ¬ 255 < v * 10 + (c - 48)) : qc k v d l = qc k (v * 10 + (c - 48)) (d + 1) r := by
  subst hl; simp only [qc]; rw [if_neg hc, if_pos h, if_neg h1, if_neg h3, if_neg hb]

theorem snoc_map {Q : Option (List Int)} {part : Nat} {v : Int} {X X' : Nat → Int} {o : Option (List Int)} (h : Q = (o.map (fun q => v :: q)).map (fun q => (List.range part).map X ++ q)) (hX : X' = fun j => if j = part then v else X j) : Q = o.map (fun q => (List.range (part + 1)).map X' ++ q) := by
  rw [h, hX, range_map_succ, Option.map_map]
  congr 1
  funext q
  simp

set_option maxRecDepth 100000 in
set_option maxHeartbeats 2000000 in
theorem quad29 (p : ByteArray) (w : World) (hp : p.size ≤ 1048576) : Calls Try.prog 29 #[.string p] w fun e w' => QuadIs e p ∧ Below w.heap.size w w' := by
  have hz := two_zero w
  go_enter Try.func29, Try.ntmps29
  go_wp2
  go_loopg [5, 6, 7, 8] (p.size + 1) (fun g pv vv dv iv wr => ∃ (i part d : Nat) (v : Int) (X : Nat → Int), i ≤ p.size + 1 ∧ g = p.size + 1 - i ∧ part ≤ 4 ∧ d ≤ 3 ∧ 0 ≤ v ∧ v ≤ 255 ∧ iv = .int .i64 i ∧ pv = .int .i64 part ∧ dv = .int .i64 d ∧ vv = .int .i64 v ∧
    Hid (i ≤ p.size → Rg.qs 4 (bs p) = (qc (4 - part) v d ((bs p).drop i)).map (fun q => (List.range part).map X ++ q)) ∧ Hid (i = p.size + 1 → Rg.qs 4 (bs p) = if part = 4 then some ((List.range 4).map X) else none) ∧
    wr.rowIs w.heap.size 52 4 (fun _ => .int .u8 0) ∧ wr.rowIs (w.heap.size + 1) 52 4 (fun j => .int .u8 (X j)) ∧ Below w.heap.size w wr)
  case atStart =>
    refine ⟨0, 0, 0, 0, fun _ => 0, Nat.zero_le _, rfl, by omega, by omega, by omega, by omega, rfl, rfl, rfl, rfl, fun _ => ?_, (fun h => by omega), hz.1, hz.2, ((Below.refl _ _).alloc (Nat.le_refl _) _).alloc (by simp) _⟩
    rw [← Rg.qc_qs 4 (bs p) (by decide)]
    simp
  case round =>
    obtain ⟨i, part, d, v, X, hi, rfl, hpart, hd3, hv0, hv1, rfl, rfl, rfl, rfl, HQ0, HF, hres, hrow, hbl⟩ := hrel
    clear hz
    have j0 := hres.cell (i := 0) (by omega)
    have j1 := hres.cell (i := 1) (by omega)
    have j2 := hres.cell (i := 2) (by omega)
    have j3 := hres.cell (i := 3) (by omega)
    have y0 := hres.frozen 0
    have y1 := hres.frozen 1
    have y2 := hres.frozen 2
    have y3 := hres.frozen 3
    have k0 := hrow.cell (i := 0) (by omega)
    have k1 := hrow.cell (i := 1) (by omega)
    have k2 := hrow.cell (i := 2) (by omega)
    have k3 := hrow.cell (i := 3) (by omega)
    by_cases hle : i ≤ p.size
    · have HQ : Hid (Rg.qs 4 (bs p) = (qc (4 - part) v d ((bs p).drop i)).map (fun q => (List.range part).map X ++ q)) := HQ0.out hle
      clear HQ0 HF
      by_cases hend : i = p.size
      · have q0 : ((i : Int) == (p.size : Int)) = true := by rw [beq_iff_eq]; omega
        have HNil : Hid ((bs p).drop i = []) := List.drop_of_length_le (by rw [bs_length]; omega)
        have hge : p.size ≤ i := by omega
        by_cases hd0 : d = 0
        · have q1 : ((d : Int) == 0) = true := by rw [beq_iff_eq]; omega
          have HN : Hid (Rg.qs 4 (bs p) = none) := by rw [Hid, HQ.out, qz_end0 HNil.out (.inl hd0)]; rfl
          clear HQ
          clear hd0 hend
          go_wp2
          refine bodyPost_ret (v := .tuple #[.agg #[.int .u8 (X 0), .int .u8 (X 1), .int .u8 (X 2), .int .u8 (X 3)], .bool false]) ?_ rfl ?_
          · simp [results, Try.results29, go_sem, j0, j1, j2, j3]
          · exact ⟨QuadIs.no _ _ _ _ rfl HN.out, (((hbl.setCell (Nat.le_refl _) _).setCell (Nat.le_refl _) _).setCell (Nat.le_refl _) _).setCell (Nat.le_refl _) _⟩
        · have q1 : ((d : Int) == 0) = false := by rw [beq_eq_false_iff_ne]; omega
          by_cases hp3 : part < 4
          · have h3 : part ≤ 3 := by omega
            have HE : Hid (qc (4 - part) v d ((bs p).drop i) = if 4 - part = 1 then some [v] else none) := qz_end HNil.out (by omega)
            obtain ⟨X', hX'⟩ : ∃ X' : Nat → Int, X' = fun j => if j = part then v else X j := ⟨_, rfl⟩
            have HX : Hid (X' = fun j => if j = part then v else X j) := hX'
            have hrow2 : (wr.setCell ⟨w.heap.size + 1, part, none⟩ (.int .u8 v)).rowIs (w.heap.size + 1) 52 4 (fun j => .int .u8 (X' j)) := by
              refine (hrow.set part _).congr ?_
              intro j _
              rw [hX']
              by_cases e : j = part
              · simp [e]
              · simp [e]
            have hresult2 : (wr.setCell ⟨w.heap.size + 1, part, none⟩ (.int .u8 v)).rowIs w.heap.size 52 4 (fun _ => .int .u8 0) := hres.setOther (by simp) _
            have hbl2 : Below w.heap.size w (wr.setCell ⟨w.heap.size + 1, part, none⟩ (.int .u8 v)) := hbl.setCell (p := ⟨w.heap.size + 1, part, none⟩) (by simp) _
            clear hX'
            have ki := hrow.cell hp3
            have fi := hrow.frozen part
            have HF2 : Hid (i + 1 = p.size + 1 → Rg.qs 4 (bs p) = if part + 1 = 4 then some ((List.range 4).map X') else none) := by
              intro _
              rw [HQ.out, HE.out]
              by_cases h4 : part + 1 = 4
              · rw [if_pos (by omega), if_pos h4]
                have e3 : part = 3 := by omega
                have hx := HX.out
                rw [e3] at hx ⊢
                rw [hx, range_map_succ]
                rfl
              · rw [if_neg (by omega), if_neg h4]
                rfl
            clear HQ HE k0 k1 k2 k3 j0 j1 j2 j3 hd0 hend
            go_wp2
            go_roundg (p.size + 1 - (i + 1))
            case measure => omega
            case rel => exact ⟨i + 1, part + 1, 0, 0, X', by omega, rfl, by omega, by omega, by omega, by omega, by go_num, by go_num, rfl, rfl, (fun h => by omega), HF2, hresult2, hrow2, hbl2⟩
          · have h3 : 3 < part := by omega
            have HN : Hid (Rg.qs 4 (bs p) = none) := by rw [Hid, HQ.out, qz_end0 HNil.out (.inr (by omega))]; rfl
            clear HQ
            clear hd0 hend
            go_wp2
            refine bodyPost_ret (v := .tuple #[.agg #[.int .u8 (X 0), .int .u8 (X 1), .int .u8 (X 2), .int .u8 (X 3)], .bool false]) ?_ rfl ?_
            · simp [results, Try.results29, go_sem, j0, j1, j2, j3]
            · exact ⟨QuadIs.no _ _ _ _ rfl HN.out, (((hbl.setCell (Nat.le_refl _) _).setCell (Nat.le_refl _) _).setCell (Nat.le_refl _) _).setCell (Nat.le_refl _) _⟩
      · have hlt : i < p.size := by omega
        have q0 : ((i : Int) == (p.size : Int)) = false := by rw [beq_eq_false_iff_ne]; omega
        have i1 := run_idx p (i : Int) i rfl hlt
        have HC : Hid ((bs p).drop i = bt p i :: (bs p).drop (i + 1)) := bs_drop p i hlt
        obtain ⟨hr1, hr2⟩ := bt_range p i
        by_cases hc : bt p i = 46
        · have q2 : (bt p i == 46) = true := by rw [beq_iff_eq]; exact hc
          by_cases hd0 : d = 0
          · have q1 : ((d : Int) == 0) = true := by rw [beq_iff_eq]; omega
            have HN : Hid (Rg.qs 4 (bs p) = none) := by rw [Hid, HQ.out, qz_dot0 HC.out hc (.inl hd0)]; rfl
            clear HQ
            clear hd0 hend hc
            go_wp2
            refine bodyPost_ret (v := .tuple #[.agg #[.int .u8 (X 0), .int .u8 (X 1), .int .u8 (X 2), .int .u8 (X 3)], .bool false]) ?_ rfl ?_
            · simp [results, Try.results29, go_sem, j0, j1, j2, j3]
            · exact ⟨QuadIs.no _ _ _ _ rfl HN.out, (((hbl.setCell (Nat.le_refl _) _).setCell (Nat.le_refl _) _).setCell (Nat.le_refl _) _).setCell (Nat.le_refl _) _⟩
          · have q1 : ((d : Int) == 0) = false := by rw [beq_eq_false_iff_ne]; omega
            by_cases hp3 : part < 4
            · have h3 : part ≤ 3 := by omega
              have HE : Hid (qc (4 - part) v d ((bs p).drop i) = (qc (4 - part - 1) 0 0 ((bs p).drop (i + 1))).map (fun q => v :: q)) := qz_dot HC.out hc (by omega)
              obtain ⟨X', hX'⟩ : ∃ X' : Nat → Int, X' = fun j => if j = part then v else X j := ⟨_, rfl⟩
              have HX : Hid (X' = fun j => if j = part then v else X j) := hX'
              have hrow2 : (wr.setCell ⟨w.heap.size + 1, part, none⟩ (.int .u8 v)).rowIs (w.heap.size + 1) 52 4 (fun j => .int .u8 (X' j)) := by
                refine (hrow.set part _).congr ?_
                intro j _
                rw [hX']
                by_cases e : j = part
                · simp [e]
                · simp [e]
              have hresult2 : (wr.setCell ⟨w.heap.size + 1, part, none⟩ (.int .u8 v)).rowIs w.heap.size 52 4 (fun _ => .int .u8 0) := hres.setOther (by simp) _
              have hbl2 : Below w.heap.size w (wr.setCell ⟨w.heap.size + 1, part, none⟩ (.int .u8 v)) := hbl.setCell (p := ⟨w.heap.size + 1, part, none⟩) (by simp) _
              clear hX'
              have ki := hrow.cell hp3
              have fi := hrow.frozen part
              have HQ2 : Hid (i + 1 ≤ p.size → Rg.qs 4 (bs p) = (qc (4 - (part + 1)) 0 0 ((bs p).drop (i + 1))).map (fun q => (List.range (part + 1)).map X' ++ q)) := by
                intro _
                refine snoc_map ?_ HX.out
                rw [HQ.out, HE.out, show 4 - part - 1 = 4 - (part + 1) by omega]
              clear HQ HE k0 k1 k2 k3 j0 j1 j2 j3 hd0 hend hc
              go_wp2
              go_roundg (p.size + 1 - (i + 1))
              case measure => omega
              case rel => exact ⟨i + 1, part + 1, 0, 0, X', by omega, rfl, by omega, by omega, by omega, by omega, by go_num, by go_num, rfl, rfl, HQ2, (fun h => by omega), hresult2, hrow2, hbl2⟩
            · have h3 : 3 < part := by omega
              have HN : Hid (Rg.qs 4 (bs p) = none) := by rw [Hid, HQ.out, qz_dot0 HC.out hc (.inr (by omega))]; rfl
              clear HQ
              clear hd0 hend hc
              go_wp2
              refine bodyPost_ret (v := .tuple #[.agg #[.int .u8 (X 0), .int .u8 (X 1), .int .u8 (X 2), .int .u8 (X 3)], .bool false]) ?_ rfl ?_
              · simp [results, Try.results29, go_sem, j0, j1, j2, j3]
              · exact ⟨QuadIs.no _ _ _ _ rfl HN.out, (((hbl.setCell (Nat.le_refl _) _).setCell (Nat.le_refl _) _).setCell (Nat.le_refl _) _).setCell (Nat.le_refl _) _⟩
        · have q2 : (bt p i == 46) = false := by rw [beq_eq_false_iff_ne]; exact hc
          cases hdg : digB (bt p i)
          · have hnd : bt p i < 48 ∨ 57 < bt p i := by have := of_decide_eq_false hdg; omega
            have HN : Hid (Rg.qs 4 (bs p) = none) := by rw [Hid, HQ.out, qz_bad HC.out hc hdg]; rfl
            clear HQ
            clear hdg hend hc
            rcases hnd with hnd | hnd
            · go_wp2
              refine bodyPost_ret (v := .tuple #[.agg #[.int .u8 (X 0), .int .u8 (X 1), .int .u8 (X 2), .int .u8 (X 3)], .bool false]) ?_ rfl ?_
              · simp [results, Try.results29, go_sem, j0, j1, j2, j3]
              · exact ⟨QuadIs.no _ _ _ _ rfl HN.out, (((hbl.setCell (Nat.le_refl _) _).setCell (Nat.le_refl _) _).setCell (Nat.le_refl _) _).setCell (Nat.le_refl _) _⟩
            · have hnd2 : ¬ bt p i < 48 := by omega
              go_wp2
              refine bodyPost_ret (v := .tuple #[.agg #[.int .u8 (X 0), .int .u8 (X 1), .int .u8 (X 2), .int .u8 (X 3)], .bool false]) ?_ rfl ?_
              · simp [results, Try.results29, go_sem, j0, j1, j2, j3]
              · exact ⟨QuadIs.no _ _ _ _ rfl HN.out, (((hbl.setCell (Nat.le_refl _) _).setCell (Nat.le_refl _) _).setCell (Nat.le_refl _) _).setCell (Nat.le_refl _) _⟩
          · obtain ⟨c0, c1⟩ : 48 ≤ bt p i ∧ bt p i ≤ 57 := of_decide_eq_true hdg
            by_cases hlead : d = 1 ∧ v = 0
            · have q3 : ((d : Int) == 1) = true := by rw [beq_iff_eq]; omega
              have q4 : (v == 0) = true := by rw [beq_iff_eq]; exact hlead.2
              have HN : Hid (Rg.qs 4 (bs p) = none) := by rw [Hid, HQ.out, qz_lead HC.out hc hdg hlead]; rfl
              clear HQ
              clear hdg hend hc hlead
              go_wp2
              refine bodyPost_ret (v := .tuple #[.agg #[.int .u8 (X 0), .int .u8 (X 1), .int .u8 (X 2), .int .u8 (X 3)], .bool false]) ?_ rfl ?_
              · simp [results, Try.results29, go_sem, j0, j1, j2, j3]
              · exact ⟨QuadIs.no _ _ _ _ rfl HN.out, (((hbl.setCell (Nat.le_refl _) _).setCell (Nat.le_refl _) _).setCell (Nat.le_refl _) _).setCell (Nat.le_refl _) _⟩
            · by_cases h33 : d = 3
              · have q3 : ((d : Int) == 1) = false := by rw [beq_eq_false_iff_ne]; omega
                have q5 : ((d : Int) == 3) = true := by rw [beq_iff_eq]; omega
                have HN : Hid (Rg.qs 4 (bs p) = none) := by rw [Hid, HQ.out, qz_long HC.out hc hdg hlead h33]; rfl
                clear HQ
                clear hdg hend hc hlead h33
                go_wp2
                refine bodyPost_ret (v := .tuple #[.agg #[.int .u8 (X 0), .int .u8 (X 1), .int .u8 (X 2), .int .u8 (X 3)], .bool false]) ?_ rfl ?_
                · simp [results, Try.results29, go_sem, j0, j1, j2, j3]
                · exact ⟨QuadIs.no _ _ _ _ rfl HN.out, (((hbl.setCell (Nat.le_refl _) _).setCell (Nat.le_refl _) _).setCell (Nat.le_refl _) _).setCell (Nat.le_refl _) _⟩
              · have q5 : ((d : Int) == 3) = false := by rw [beq_eq_false_iff_ne]; omega
                by_cases hbig : 255 < v * 10 + (bt p i - 48)
                · have HN : Hid (Rg.qs 4 (bs p) = none) := by rw [Hid, HQ.out, qz_big HC.out hc hdg hlead h33 hbig]; rfl
                  clear HQ
                  clear hdg hend hc h33
                  by_cases hd1 : d = 1
                  · have q3 : ((d : Int) == 1) = true := by rw [beq_iff_eq]; omega
                    have q4 : (v == 0) = false := by rw [beq_eq_false_iff_ne]; exact fun e => hlead ⟨hd1, e⟩
                    clear hd1 hlead
                    go_wp2
                    refine bodyPost_ret (v := .tuple #[.agg #[.int .u8 (X 0), .int .u8 (X 1), .int .u8 (X 2), .int .u8 (X 3)], .bool false]) ?_ rfl ?_
                    · simp [results, Try.results29, go_sem, j0, j1, j2, j3]
                    · exact ⟨QuadIs.no _ _ _ _ rfl HN.out, (((hbl.setCell (Nat.le_refl _) _).setCell (Nat.le_refl _) _).setCell (Nat.le_refl _) _).setCell (Nat.le_refl _) _⟩
                  · have q3 : ((d : Int) == 1) = false := by rw [beq_eq_false_iff_ne]; omega
                    clear hd1 hlead
                    go_wp2
                    refine bodyPost_ret (v := .tuple #[.agg #[.int .u8 (X 0), .int .u8 (X 1), .int .u8 (X 2), .int .u8 (X 3)], .bool false]) ?_ rfl ?_
                    · simp [results, Try.results29, go_sem, j0, j1, j2, j3]
                    · exact ⟨QuadIs.no _ _ _ _ rfl HN.out, (((hbl.setCell (Nat.le_refl _) _).setCell (Nat.le_refl _) _).setCell (Nat.le_refl _) _).setCell (Nat.le_refl _) _⟩
                · have HQ2 : Hid (i + 1 ≤ p.size → Rg.qs 4 (bs p) = (qc (4 - part) (v * 10 + (bt p i - 48)) (d + 1) ((bs p).drop (i + 1))).map (fun q => (List.range part).map X ++ q)) := by
                    intro _
                    rw [HQ.out, qz_next HC.out hc hdg hlead h33 hbig]
                  have hd4 : d + 1 ≤ 3 := by omega
                  clear HQ hdg hend hc h33
                  by_cases hd1 : d = 1
                  · have q3 : ((d : Int) == 1) = true := by rw [beq_iff_eq]; omega
                    have q4 : (v == 0) = false := by rw [beq_eq_false_iff_ne]; exact fun e => hlead ⟨hd1, e⟩
                    clear hd1 hlead
                    go_wp2
                    go_roundg (p.size + 1 - (i + 1))
                    case measure => omega
                    case rel => exact ⟨i + 1, part, d + 1, v * 10 + (bt p i - 48), X, by omega, rfl, hpart, hd4, by omega, by omega, by go_num, rfl, by go_num, rfl, HQ2, (fun h => by omega), hres, hrow, hbl⟩
                  · have q3 : ((d : Int) == 1) = false := by rw [beq_eq_false_iff_ne]; omega
                    clear hd1 hlead
                    go_wp2
                    go_roundg (p.size + 1 - (i + 1))
                    case measure => omega
                    case rel => exact ⟨i + 1, part, d + 1, v * 10 + (bt p i - 48), X, by omega, rfl, hpart, hd4, by omega, by omega, by go_num, rfl, by go_num, rfl, HQ2, (fun h => by omega), hres, hrow, hbl⟩
    · have hfin : i = p.size + 1 := by omega
      have HE : Hid (Rg.qs 4 (bs p) = if part = 4 then some ((List.range 4).map X) else none) := HF.out hfin
      clear hfin HF HQ0
      go_wp2
      refine bodyPost_ret (v := .tuple #[.agg #[.int .u8 (X 0), .int .u8 (X 1), .int .u8 (X 2), .int .u8 (X 3)], .bool ((part : Int) == 4)]) ?_ rfl ?_
      · simp [results, Try.results29, go_sem, j0, j1, j2, j3]
      · refine ⟨⟨X 0, X 1, X 2, X 3, _, rfl, ?_⟩, (((hbl.setCell (Nat.le_refl _) _).setCell (Nat.le_refl _) _).setCell (Nat.le_refl _) _).setCell (Nat.le_refl _) _⟩
        rw [HE.out]
        by_cases h4 : part = 4
        · subst h4; rfl
        · rw [if_neg h4, if_neg]
          rw [beq_iff_eq]
          omega

end Go.Proofs.Qxb6605336a
