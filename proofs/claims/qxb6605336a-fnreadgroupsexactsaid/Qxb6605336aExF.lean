/-
  WALK: the law 'FnReadGroupsExact' (3).
-/
import Derived.Test.Qxb6605336aExE
namespace Go.Proofs.Qxb6605336a
open Go.RowKit Go.Deep Go.ChangeAt Go.WideShapes Go.ChangeShapes
open Rg (gb gbs pcs lead grp model)

theorem qs_len : ∀ (k : Nat) (l q : List Int), Rg.qs k l = some q → q.length = k := by
  intro k
  induction k with
  | zero =>
    intro l q h
    simp only [Rg.qs] at h
    split at h
    · cases h; rfl
    · cases h
  | succ k ih =>
    intro l q h
    simp only [Rg.qs] at h
    split at h
    · cases h
    · split at h
      · rename_i hk
        split at h
        · cases h; simp [hk]
        · cases h
      · split at h
        · cases h
        · rename_i c r _
          split at h
          · cases hq : Rg.qs k r with
            | none => rw [hq] at h; cases h
            | some r' =>
              rw [hq] at h
              cases h
              simp [ih r r' hq]
          · cases h

theorem model_len (ip : Bool) (r : Nat) (PS : List (List Int)) : (model ip r PS).1.length ≤ r := by
  unfold model
  split
  · split
    · rw [gbs_length]; omega
    · rw [gbs_length, List.length_take]; omega
  · cases hq : Rg.endQ ip r PS with
    | some q =>
      simp only
      unfold Rg.endQ at hq
      split at hq
      · rename_i h
        rw [List.length_append, gbs_length, List.length_take, qs_len 4 _ q hq]
        omega
      · cases hq
    | none =>
      simp only
      rw [gbs_length, List.length_take]
      unfold Rg.wide
      omega

theorem rgs_len (ip : Bool) (r : Nat) (l : List Int) : (Rg.rgs r ip l).1.length ≤ r := by
  by_cases h : l = []
  · unfold Rg.rgs; rw [if_pos h]; exact Nat.zero_le _
  · rw [Rg.rgs_model r ip l h]; exact model_len _ _ _

set_option maxRecDepth 100000 in
theorem model11_all (s : ByteArray) (room : Nat) (ip : Bool) (w : World) (hs : s.size ≤ 524288) (hr : room ≤ 524288) :
    Calls Try.prog 11 #[.string s, .int .i64 room, .bool ip] w fun e w' => ModelIs e w' (Rg.rgs room ip (bs s)) ∧ Below w.heap.size w w' := by
  by_cases h0 : s.size = 0
  · have hR : Rg.rgs room ip (bs s) = ([], true) := by unfold Rg.rgs; rw [if_pos ((bs_empty s).2 h0)]
    rw [hR]
    have q0 : s.toList.isEmpty = true := by rw [empty_iff]; exact decide_eq_true h0
    have hM : ModelIs (.returned (.tuple #[.int .i64 0, .bool true, .slice none 0 0])) w ([], true) := ⟨none, 0, rfl, no_tail w⟩
    clear h0 hR
    go_enter Try.func11, Try.ntmps11
    go_wp2
    go_ret3
    exact ⟨hM, Below.refl _ _⟩
  · rw [Rg.rgs_model room ip (bs s) (fun e => h0 ((bs_empty s).1 e))]
    exact model11 s room ip w hs hr h0

/-! ### the copies -/
theorem clone9D (ad : Option Addr) (cap n : Nat) (orig : List Int) (hn : orig.length = n) (w : World) (hm : n ≤ 1048576) (hE : Elems w ad n (fun i => .int .u8 (orig.getD i 0))) :
    Calls Try.prog 9 #[.slice ad n cap] w fun e w' => ∃ ad', e = .returned (.slice ad' n n) ∧ DstIs w' ad' orig ∧ (∀ x, ad' = some x → x = ⟨w.heap.size, 0, none⟩) ∧ Below w.heap.size w w' := by
  subst hn
  by_cases hl : orig.length = 0
  · refine (clone9 ad orig.length cap _ w hm hE).mono ?_
    rintro e w' ⟨ad', rfl, _, h1, _, h2⟩
    exact ⟨ad', rfl, .inl hl, h1, h2⟩
  · cases ad with
    | none => exact absurd (hE.1 rfl) hl
    | some x =>
      obtain ⟨b, off, rfl, hb, hc⟩ := elems_addr (hE.2 x rfl) (by omega)
      refine (clone9_some b off orig.length cap _ w hm hc hb).mono ?_
      rintro e w' ⟨rfl, hr, hs, hbl⟩
      exact ⟨_, rfl, .inr ⟨_, rfl, hr⟩, (fun x hx => by cases hx; rfl), hbl⟩

theorem dst_elems {w : World} {ad : Option Addr} {cont : List Int} {n : Nat} (hn : cont.length = n) (h : DstIs w ad cont) : Elems w ad n (fun i => .int .u8 (cont.getD i 0)) := by
  subst hn
  rcases h with h | ⟨D, rfl, hr⟩
  · rw [h]
    exact ⟨fun _ => rfl, fun _ _ _ hi => absurd hi (Nat.not_lt_zero _)⟩
  · refine ⟨(fun h => by cases h), fun x hx i hi => ?_⟩
    cases hx
    rw [add_plain, Nat.zero_add]; exact hr.cell hi

theorem below_onlyA {ad : Option Addr} {B : Nat} {a b c : World} (h : Below B a b) (hO : OnlyA ad b c) (hx : ∀ x, ad = some x → B ≤ x.block) (hs : B ≤ b.heap.size) : Below B a c :=
  h.trans ⟨hO.os, hO.tape, hO.output, hO.size, fun i hi => hO.block i (by omega) (fun x e => by have := hx x e; omega)⟩

theorem read10n (s : ByteArray) (ad : Option Addr) (n : Nat) (orig : List Int) (hn : orig.length = n) (ip : Bool) (R : List Int × Bool) (hR : Rg.rgs n ip (bs s) = R) (w : World) (hs : s.size ≤ 1048576) (ho : n ≤ 1048576) (hD : DstIs w ad orig) :
    Calls Try.prog 10 #[.string s, .slice ad n n, .bool ip] w fun e w' =>
      e = .returned (.tuple #[.int .i64 R.1.length, .bool R.2]) ∧ DstIs w' ad (fillD R.1 orig) ∧ OnlyA ad w w' := by
  subst hn hR
  exact read10 s ad orig.length orig ip w hs ho (Nat.le_refl _) hD

theorem fill_lo {out orig : List Int} {i : Nat} (h : i < out.length) : (fillD out orig).getD i 0 = out.getD i 0 := by
  unfold fillD
  simp only [List.getD]
  rw [List.getElem?_append_left h]
theorem fill_hi {out orig : List Int} {i : Nat} (h : ¬ i < out.length) : (fillD out orig).getD i 0 = orig.getD i 0 := by
  unfold fillD
  simp only [List.getD]
  rw [List.getElem?_append_right (by omega), List.getElem?_drop]
  congr 2
  omega

set_option maxRecDepth 100000 in
set_option maxHeartbeats 2000000 in
theorem law3_main (s : ByteArray) (ad : Option Addr) (n cap : Nat) (orig : List Int) (hn : orig.length = n) (ip : Bool) (w : World) (hE : Elems w ad n (fun i => .int .u8 (orig.getD i 0))) (hs : s.size ≤ 524288) (hl : n ≤ 524288) :
    Calls Try.prog 3 #[.string s, .slice ad n cap, .bool ip] w fun e w' => e = .returned (.bool true) ∧ Below w.heap.size w w' := by
  have HN : Hid (orig.length = n) := hn
  clear hn
  obtain ⟨R, hR⟩ : ∃ R, Rg.rgs n ip (bs s) = R := ⟨_, rfl⟩
  have HR : Hid (Rg.rgs n ip (bs s) = R) := hR
  have hRl : R.1.length ≤ n := by rw [← hR]; exact rgs_len _ _ _
  clear hR
  obtain ⟨out, okk⟩ := R
  obtain ⟨k, hk⟩ : ∃ k, out.length = k := ⟨_, rfl⟩
  have HK : Hid (out.length = k) := hk
  have hkn : k ≤ n := by rw [← hk]; exact hRl
  clear hRl hk
  go_enter Try.func3, Try.ntmps3
  go_wp2_with fail
  refine (bytes8 s ad n cap ip w (by omega) (by omega)).mono ?_
  rintro e w0 ⟨⟨bb, rfl⟩, rfl⟩
  cases bb
  · go_wp2
    go_ret
    exact ⟨rfl, Below.refl _ _⟩
  go_wp2_with fail
  refine (clone9D ad cap n orig HN.out w0 (by omega) hE).mono ?_
  rintro e w1 ⟨ad1, rfl, hD1, hA1, hb1⟩
  go_wp2_with fail
  refine (clone9D ad cap n orig HN.out w1 (by omega) (hE.kept hb1)).mono ?_
  rintro e w2 ⟨ad2, rfl, hD2, hA2, hb2⟩
  go_wp2_with fail
  refine (read10n s ad2 n orig HN.out ip (out, okk) HR.out w2 (by omega) (by omega) hD2).mono ?_
  rintro e w3 ⟨rfl, hD3, hO3⟩
  have hb13 : Below w1.heap.size w1 w3 := below_onlyA hb2 hO3 (fun x hx => by rw [hA2 x hx]; exact Nat.le_refl _) hb2.size
  have hE1 := dst_elems HN.out (hD1.below hb13)
  have hE3 := dst_elems (n := n) (by rw [fillD_length (by rw [HK.out, HN.out]; exact hkn)]; exact HN.out) hD3
  have hb03 := hb1.trans (hb13.mono hb1.size)
  clear hD1 hD2 hD3 hO3 hb13 hE hb1 hb2 hA1 hA2
  simp only
  rw [HK.out]
  go_wp2_with fail
  have h11 := model11_all s n ip w3 hs hl
  rw [HR.out] at h11
  refine h11.mono ?_
  clear h11
  rintro e w4 ⟨⟨ad4, cap4, rfl, hE4⟩, hb4⟩
  have hE1' := hE1.kept hb4
  have hE3' := hE3.kept hb4
  have hb04 := hb03.trans (hb4.mono hb03.size)
  clear hE1 hE3 hb4 hb03
  simp only at hE4 ⊢
  rw [HK.out] at hE4 ⊢
  go_wp2
  go_loopg [13] n (fun g iv wq => ∃ i : Nat, iv = .int .i64 i ∧ g = n - i ∧ i ≤ n ∧ ∃ m, wq = w4.drewN m)
  case atStart => exact ⟨0, rfl, rfl, Nat.zero_le _, 0, rfl⟩
  case round =>
    obtain ⟨i, rfl, rfl, hi, m, rfl⟩ := hrel
    by_cases hlt : i < n
    · obtain ⟨x, x1, x2, x3⟩ := byte_at n hE3' hlt
      by_cases hik : i < k
      · obtain ⟨y, y1, y2, y3⟩ := byte_at cap4 hE4 hik
        rw [fill_lo (by rw [HK.out]; exact hik)] at x3
        obtain ⟨V, hV⟩ : ∃ V, out.getD i 0 = V := ⟨_, rfl⟩
        rw [hV] at x3 y3
        clear hV hE1' hE3' hE4
        go_wp2
        go_quiet (fail)
        go_wp2
        go_roundg (n - (i + 1))
        case measure => omega
        case rel => exact ⟨i + 1, by go_num, rfl, by omega, _, rfl⟩
      · obtain ⟨y, y1, y2, y3⟩ := byte_at n hE1' hlt
        rw [fill_hi (by rw [HK.out]; exact hik)] at x3
        obtain ⟨V, hV⟩ : ∃ V, orig.getD i 0 = V := ⟨_, rfl⟩
        rw [hV] at x3 y3
        clear hV hE1' hE3' hE4
        go_wp2
        go_quiet (fail)
        go_wp2
        go_roundg (n - (i + 1))
        case measure => omega
        case rel => exact ⟨i + 1, by go_num, rfl, by omega, _, rfl⟩
    · go_wp2
      go_ret
      exact ⟨rfl, below_drewN hb04 _⟩

set_option maxRecDepth 100000 in
theorem law3_big (s : ByteArray) (ad : Option Addr) (n cap : Nat) (ip : Bool) (w : World) (hs : s.size ≤ 9223372036854775807) (hl : n ≤ 9223372036854775807) (hbig : 524288 < s.size ∨ 524288 < n) :
    Calls Try.prog 3 #[.string s, .slice ad n cap, .bool ip] w fun e w' => e = .returned (.bool true) ∧ Below w.heap.size w w' := by
  go_enter Try.func3, Try.ntmps3
  go_wp2_with fail
  refine (bytes8 s ad n cap ip w hs hl).mono ?_
  rintro e w0 ⟨⟨bb, rfl⟩, rfl⟩
  cases bb
  · go_wp2
    go_ret
    exact ⟨rfl, Below.refl _ _⟩
  · by_cases h1 : 524288 < s.size
    · clear hbig
      go_wp2
      go_ret
      exact ⟨rfl, Below.refl _ _⟩
    · have h2 : 524288 < n := by omega
      clear hbig
      go_wp2
      go_ret
      exact ⟨rfl, Below.refl _ _⟩

/-- THE LAW's WALK, for every input. -/
theorem law3 (s : ByteArray) (ad : Option Addr) (n cap : Nat) (orig : List Int) (hn : orig.length = n) (ip : Bool) (w : World) (hE : Elems w ad n (fun i => .int .u8 (orig.getD i 0))) (hs : s.size ≤ maxLen) (hl : n ≤ maxLen) :
    Calls Try.prog 3 #[.string s, .slice ad n cap, .bool ip] w fun e w' => e = .returned (.bool true) ∧ Below w.heap.size w w' := by
  unfold maxLen at hs hl
  by_cases h : 524288 < s.size ∨ 524288 < n
  · exact law3_big s ad n cap ip w (by omega) (by omega) h
  · exact law3_main s ad n cap orig hn ip w hE (by omega) (by omega)

end Go.Proofs.Qxb6605336a
