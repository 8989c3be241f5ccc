/-
  WALKS on the road of readGroups: the dot cut off (49, 47, 45), the dotted quad (37).
-/
import Derived.Test.Qxb6605336aRgA
import Derived.Deep.DeepCutAuto
import Derived.RegionTactic
namespace Go.Proofs.Qxb6605336a
open Go.RowKit Go.Deep Go.ChangeAt Go.WideShapes Go.ChangeShapes
open Rg (hexOk hexD digB)

theorem first_dot (s : ByteArray) (h : 0 < s.size) : ((s.extract 0 1).toList == [46]) = decide (0 < s.size ∧ bt s 0 = 46) := by
  have h' : 0 < s.data.toList.length := by rw [Array.length_toList]; exact h
  have e : (s.extract 0 1).toList = [s[0]] := by
    rw [ByteArray.toList_eq]
    simp
    rw [List.take_one]
    cases hd : s.data.toList with
    | nil => rw [hd] at h'; simp at h'
    | cons c l =>
      have hc : s[0] = c := by
        have : s.data.toList[0]'h' = c := by simp [hd]
        rw [← this]; rfl
      simp [hc]
  rw [e, bt_eq h]
  rw [Bool.eq_iff_iff, beq_iff_eq, decide_eq_true_iff]
  constructor
  · intro g
    have : s[0] = 46 := by simpa using g
    exact ⟨h, by rw [this]; rfl⟩
  · rintro ⟨_, g⟩
    have : s[0] = 46 := by
      apply UInt8.toNat_inj.1
      have g2 : s[0].toNat = 46 := by omega
      rw [g2]; rfl
    rw [this]

theorem has49 (s : ByteArray) (w : World) (hs : s.size ≤ 1048576) : Calls Try.prog 49 #[.string s, .string ⟨#[46]⟩] w fun e w' => e = .returned (.bool (decide (0 < s.size ∧ bt s 0 = 46))) ∧ w' = w := by
  by_cases h : 0 < s.size
  · rw [← first_dot s h]
    go_enter Try.func49, Try.ntmps49
    go_wp2
    go_ret
    exact ⟨rfl, rfl⟩
  · rw [decide_eq_false (fun g => h g.1)]
    go_enter Try.func49, Try.ntmps49
    go_wp2
    go_ret
    exact ⟨rfl, rfl⟩

/-- 45: the dot cut off. -/
theorem cut45_yes (s : ByteArray) (w : World) (hs : s.size ≤ 1048576) (h0 : 0 < s.size) (hd : bt s 0 = 46) : Calls Try.prog 45 #[.string s, .string ⟨#[46]⟩] w fun e w' => e = .returned (.tuple #[.string (s.extract 1 s.size), .bool true]) ∧ w' = w := by
  have hh := has49 s w hs
  rw [decide_eq_true ⟨h0, hd⟩] at hh
  clear hd
  go_enter Try.func45, Try.ntmps45
  go_wp2_with (first | (go_at_call 49; refine hh.mono ?_; rintro e w' ⟨rfl, rfl⟩) | go_in)
  go_ret2
  exact ⟨rfl, rfl⟩
theorem cut45_no (s : ByteArray) (w : World) (hs : s.size ≤ 1048576) (h : ¬ (0 < s.size ∧ bt s 0 = 46)) : Calls Try.prog 45 #[.string s, .string ⟨#[46]⟩] w fun e w' => e = .returned (.tuple #[.string s, .bool false]) ∧ w' = w := by
  have hh := has49 s w hs
  rw [decide_eq_false h] at hh
  clear h
  go_enter Try.func45, Try.ntmps45
  go_wp2_with (first | (go_at_call 49; refine hh.mono ?_; rintro e w' ⟨rfl, rfl⟩) | go_in)
  go_ret2
  exact ⟨rfl, rfl⟩

/-- What readIPv4 hands back: the four numbers where the string is a dotted quad. -/
def QuadIs (e : Ending) (s : ByteArray) : Prop :=
  ∃ (x0 x1 x2 x3 : Int) (ok : Bool), e = .returned (.tuple #[.agg #[.int .u8 x0, .int .u8 x1, .int .u8 x2, .int .u8 x3], .bool ok]) ∧ Rg.qs 4 (bs s) = if ok = true then some [x0, x1, x2, x3] else none
theorem QuadIs.no {e : Ending} {s : ByteArray} (x0 x1 x2 x3 : Int) (h : e = .returned (.tuple #[.agg #[.int .u8 x0, .int .u8 x1, .int .u8 x2, .int .u8 x3], .bool false])) (hq : Rg.qs 4 (bs s) = none) : QuadIs e s := ⟨x0, x1, x2, x3, false, h, hq⟩

theorem row_zero (w : World) : (w.alloc (.cells #[.int .u8 0, .int .u8 0, .int .u8 0, .int .u8 0] 52)).rowIs w.heap.size 52 4 (fun _ => .int .u8 0) := by
  refine World.rowIs_alloc w #[.int .u8 0, .int .u8 0, .int .u8 0, .int .u8 0] 52 _ ?_
  intro i hi
  match i, hi with
  | 0, _ => rfl
  | 1, _ => rfl
  | 2, _ => rfl
  | 3, _ => rfl

theorem range_map_succ (X : Nat → Int) (i : Nat) (v : Int) : (List.range (i + 1)).map (fun j => if j = i then v else X j) = (List.range i).map X ++ [v] := by
  rw [List.range_succ, List.map_append]
  congr 1
  · apply List.map_congr_left
    intro j hj
    have : j < i := by simpa using hj
    rw [if_neg (by omega)]
  · simp

theorem qstep_dot {Q : Option (List Int)} {l rest : List Int} {i n : Nat} {v : Int} {X X' : Nat → Int} (h : Q = (Rg.qs (4 - i) l).map (fun q => (List.range i).map X ++ q)) (hd : Rg.dec l = some (v, n)) (hi : i < 3) (hr : l.drop n = 46 :: rest)
    (hX : X' = fun j => if j = i then v else X j) : Q = (Rg.qs (4 - (i + 1)) rest).map (fun q => (List.range (i + 1)).map X' ++ q) := by
  rw [h, show 4 - i = (3 - i) + 1 by omega, Rg.qs_dot hd (by omega) hr, show 4 - (i + 1) = 3 - i by omega, hX, range_map_succ, Option.map_map]
  congr 1
  funext q
  simp
theorem qstep_last {Q : Option (List Int)} {l : List Int} {n : Nat} {v : Int} {X X' : Nat → Int} (h : Q = (Rg.qs (4 - 3) l).map (fun q => (List.range 3).map X ++ q)) (hd : Rg.dec l = some (v, n))
    (hX : X' = fun j => if j = 3 then v else X j) : Q = (Rg.qs (4 - (3 + 1)) (l.drop n)).map (fun q => (List.range (3 + 1)).map X' ++ q) := by
  rw [h, show 4 - 3 = 1 by omega, Rg.qs_last hd, hX, range_map_succ, Option.map_map]
  congr 1
theorem qstep_no {Q : Option (List Int)} {l : List Int} {i n : Nat} {v : Int} {X : Nat → Int} (h : Q = (Rg.qs (4 - i) l).map (fun q => (List.range i).map X ++ q)) (hd : Rg.dec l = some (v, n)) (hi : i < 3) (hr : ∀ r, l.drop n ≠ 46 :: r) : Q = none := by
  rw [h, show 4 - i = (3 - i) + 1 by omega, Rg.qs_nodot hd (by omega) hr]
  rfl
theorem dot_head {r' : ByteArray} {l : List Int} (hb : bs r' = l) (h0 : 0 < r'.size) (hd : bt r' 0 = 46) : l = 46 :: bs (r'.extract 1 r'.size) := by
  rw [bs_extract, ← hb]
  have := bs_drop r' 0 h0
  rw [hd] at this
  simpa using this
theorem dot_nohead {r' : ByteArray} {l : List Int} (hb : bs r' = l) (h : ¬ (0 < r'.size ∧ bt r' 0 = 46)) : ∀ r, l ≠ 46 :: r := by
  intro r e
  apply h
  have hl : 0 < (bs r').length := by rw [hb, e]; simp
  rw [bs_length] at hl
  refine ⟨hl, ?_⟩
  rw [← bs_getD, hb, e]
  rfl
theorem quad_end {s r : ByteArray} {X : Nat → Int} (h : Rg.qs 4 (bs s) = (Rg.qs (4 - 4) (bs r)).map (fun q => (List.range 4).map X ++ q)) : Rg.qs 4 (bs s) = if decide (r.size = 0) = true then some [X 0, X 1, X 2, X 3] else none := by
  rw [h]
  by_cases hr : r.size = 0
  · have : bs r = [] := (bs_empty r).2 hr
    rw [this, decide_eq_true hr]
    simp [Rg.qs, List.range_succ]
  · have hne : ¬ bs r = [] := fun e => hr ((bs_empty r).1 e)
    simp only [Nat.sub_self, Rg.qs, if_neg hne, decide_eq_false hr]
    rfl

theorem empty_iff (r : ByteArray) : r.toList.isEmpty = decide (r.size = 0) := by
  rw [ByteArray.toList_eq, Bool.eq_iff_iff, List.isEmpty_iff, decide_eq_true_iff, ← List.length_eq_zero_iff, Array.length_toList]
  rfl

set_option maxRecDepth 100000 in
set_option maxHeartbeats 1000000 in
theorem quad37 (s : ByteArray) (w : World) (hs : s.size ≤ 1048576) : Calls Try.prog 37 #[.string s] w fun e w' => QuadIs e s ∧ Below w.heap.size w w' := by
  go_enter Try.func37, Try.ntmps37
  go_wp2
  go_loopg [0, 8] 4 (fun g rv iv wr => ∃ (i : Nat) (r : ByteArray) (X : Nat → Int), i ≤ 4 ∧ g = 4 - i ∧ iv = .int .i64 i ∧ rv = .string r ∧ r.size ≤ 1048576 ∧
    Hid (Rg.qs 4 (bs s) = (Rg.qs (4 - i) (bs r)).map (fun q => (List.range i).map X ++ q)) ∧ wr.rowIs w.heap.size 52 4 (fun j => .int .u8 (X j)) ∧ Below w.heap.size w wr)
  case atStart =>
    refine ⟨0, s, fun _ => 0, by omega, rfl, rfl, rfl, hs, ?_, row_zero w, (Below.refl _ _).alloc (Nat.le_refl _) _⟩
    show Rg.qs 4 (bs s) = (Rg.qs 4 (bs s)).map (fun q => [] ++ q)
    simp
  case round =>
    obtain ⟨i, r, X, hi, rfl, rfl, rfl, hr, HQ, hrow, hbl⟩ := hrel
    have k0 := hrow.cell (i := 0) (by omega)
    have k1 := hrow.cell (i := 1) (by omega)
    have k2 := hrow.cell (i := 2) (by omega)
    have k3 := hrow.cell (i := 3) (by omega)
    have f0 := hrow.frozen 0
    have f1 := hrow.frozen 1
    have f2 := hrow.frozen 2
    have f3 := hrow.frozen 3
    by_cases hlt : i < 4
    · have hdec := dec44 r wr hr
      cases hd : Rg.dec (bs r) with
      | none =>
        rw [hd] at hdec
        simp only [decR] at hdec
        have hno : Rg.qs 4 (bs s) = none := by
          have h := HQ.out
          rw [show 4 - i = (3 - i) + 1 by omega, Rg.qs_none hd] at h
          exact h
        have HN : Hid (Rg.qs 4 (bs s) = none) := hno
        clear hno hd
        go_wp2_with (go_at_call 44; refine hdec.mono ?_; rintro e w' ⟨rfl, rfl⟩)
        refine bodyPost_ret (v := .tuple #[.agg #[.int .u8 (X 0), .int .u8 (X 1), .int .u8 (X 2), .int .u8 (X 3)], .bool false]) ?_ rfl ?_
        · simp [results, Try.results37, go_sem, k0, k1, k2, k3]
        · exact ⟨QuadIs.no _ _ _ _ rfl HN.out, (((hbl.setCell (Nat.le_refl _) _).setCell (Nat.le_refl _) _).setCell (Nat.le_refl _) _).setCell (Nat.le_refl _) _⟩
      | some vn =>
        obtain ⟨v, n⟩ := vn
        rw [hd] at hdec
        simp only [decR] at hdec
        obtain ⟨v0, v1, n0, n1⟩ := Rg.dec_bound hd
        rw [bs_length] at n1
        have hbsr : bs (r.extract n r.size) = (bs r).drop n := bs_extract r n
        have hszr : (r.extract n r.size).size ≤ 1048576 := by rw [← bs_length, hbsr, List.length_drop, bs_length]; omega
        obtain ⟨r', hr'⟩ : ∃ r', r.extract n r.size = r' := ⟨_, rfl⟩
        rw [hr'] at hbsr hszr
        have HD : Hid (Rg.dec (bs r) = some (v, n) ∧ bs r' = (bs r).drop n) := ⟨hd, hbsr⟩
        clear hd hbsr
        obtain ⟨X', hX'⟩ : ∃ X' : Nat → Int, X' = fun j => if j = i then v else X j := ⟨_, rfl⟩
        have HX : Hid (X' = fun j => if j = i then v else X j) := hX'
        clear hX'
        have hwv : IntKind.u8.wrap v = v := IntWalk.u8_in v ⟨v0, v1⟩
        go_upto_region 7 with (go_at_call 44; refine hdec.mono ?_; rintro e w' ⟨rfl, rfl⟩)
        have ki := hrow.cell hlt
        have fi := hrow.frozen i
        have hni : (n : Int) ≤ (r.size : Int) := by omega
        go_cut [0] (fun rv wc => rv = .string r' ∧ wc.rowIs w.heap.size 52 4 (fun j => .int .u8 (X' j)) ∧ Below w.heap.size w wc)
        case first =>
          clear k0 k1 k2 k3 f0 f1 f2 f3
          go_region
          all_goals
            go_wp2
            go_meet
            refine ⟨rfl, ((hrow.drew).set i _).congr ?_, (hbl.drew).setCell (Nat.le_refl _) _⟩
            intro j _
            rw [HX.out]
            by_cases e : j = i
            · simp [e]
            · simp [e]
        case rest =>
          clear hrow hbl k0 k1 k2 k3 f0 f1 f2 f3 ki fi hr' hwv hni
          obtain ⟨rfl, hrow, hbl⟩ := hcut
          have k0 := hrow.cell (i := 0) (by omega)
          have k1 := hrow.cell (i := 1) (by omega)
          have k2 := hrow.cell (i := 2) (by omega)
          have k3 := hrow.cell (i := 3) (by omega)
          have f0 := hrow.frozen 0
          have f1 := hrow.frozen 1
          have f2 := hrow.frozen 2
          have f3 := hrow.frozen 3
          by_cases h3 : i < 3
          · by_cases hdot : 0 < r'.size ∧ bt r' 0 = 46
            · have hcutp := cut45_yes r' wc hszr hdot.1 hdot.2
              have HQ' : Hid (Rg.qs 4 (bs s) = (Rg.qs (4 - (i + 1)) (bs (r'.extract 1 r'.size))).map (fun q => (List.range (i + 1)).map X' ++ q)) := qstep_dot HQ.out HD.out.1 h3 (by rw [← HD.out.2]; exact dot_head rfl hdot.1 hdot.2) HX.out
              have hsz2 : (r'.extract 1 r'.size).size ≤ 1048576 := by rw [← bs_length, bs_extract, List.length_drop, bs_length]; omega
              clear hdot
              go_wp2_with (go_at_call 45; refine hcutp.mono ?_; rintro e w' ⟨rfl, rfl⟩)
              go_roundg (4 - (i + 1))
              case measure => omega
              case rel => exact ⟨i + 1, _, X', by omega, rfl, by go_num, rfl, hsz2, HQ', hrow, hbl⟩
            · have hcutp := cut45_no r' wc hszr hdot
              have HN : Hid (Rg.qs 4 (bs s) = none) := qstep_no HQ.out HD.out.1 h3 (by rw [← HD.out.2]; exact dot_nohead rfl hdot)
              clear hdot
              go_wp2_with (go_at_call 45; refine hcutp.mono ?_; rintro e w' ⟨rfl, rfl⟩)
              refine bodyPost_ret (v := .tuple #[.agg #[.int .u8 (X' 0), .int .u8 (X' 1), .int .u8 (X' 2), .int .u8 (X' 3)], .bool false]) ?_ rfl ?_
              · simp [results, Try.results37, go_sem, k0, k1, k2, k3]
              · exact ⟨QuadIs.no _ _ _ _ rfl HN.out, (((hbl.setCell (Nat.le_refl _) _).setCell (Nat.le_refl _) _).setCell (Nat.le_refl _) _).setCell (Nat.le_refl _) _⟩
          · have e3 : i = 3 := by omega
            have HQ' : Hid (Rg.qs 4 (bs s) = (Rg.qs (4 - (i + 1)) (bs r')).map (fun q => (List.range (i + 1)).map X' ++ q)) := by
              have hq := HQ.out
              have hx := HX.out
              rw [e3] at hq hx ⊢
              rw [HD.out.2]
              exact qstep_last hq HD.out.1 hx
            clear e3
            go_wp2
            go_roundg (4 - (i + 1))
            case measure => omega
            case rel => exact ⟨i + 1, _, X', by omega, rfl, by go_num, rfl, hszr, HQ', hrow, hbl⟩
    · have e4 : i = 4 := by omega
      have HE : Hid (Rg.qs 4 (bs s) = if decide (r.size = 0) = true then some [X 0, X 1, X 2, X 3] else none) := by
        have hq := HQ.out
        rw [e4] at hq
        exact quad_end hq
      clear e4
      go_wp2
      refine bodyPost_ret (v := .tuple #[.agg #[.int .u8 (X 0), .int .u8 (X 1), .int .u8 (X 2), .int .u8 (X 3)], .bool r.toList.isEmpty]) ?_ rfl ?_
      · simp [results, Try.results37, go_sem, k0, k1, k2, k3]
      · exact ⟨⟨X 0, X 1, X 2, X 3, _, rfl, by rw [empty_iff]; exact HE.out⟩, (((hbl.setCell (Nat.le_refl _) _).setCell (Nat.le_refl _) _).setCell (Nat.le_refl _) _).setCell (Nat.le_refl _) _⟩
end Go.Proofs.Qxb6605336a
