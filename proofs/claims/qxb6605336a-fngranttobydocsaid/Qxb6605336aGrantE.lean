/-
  WALK: the law 'FnGrantToNotPrincipalComplement' (7).
-/
import Derived.Test.Qxb6605336aGrantD
namespace Go.Proofs.Qxb6605336a
open Go.RowKit Go.Deep Go.ChangeAt Go.WideShapes Go.ChangeShapes

/-- A slice of strings that came in. -/
structure StrsIn (w : World) (ad : Option Addr) (len : Nat) (g : Nat → ByteArray) : Prop where
  len_le : len ≤ 9223372036854775807
  el : Elems w ad len (fun i => .string (g i))
  sz : ∀ i, i < len → (g i).size ≤ 9223372036854775807

set_option maxRecDepth 100000 in
set_option maxHeartbeats 2000000 in
theorem law7 (b0 b1 b9 : Bool) (ad2 ad3 ad4 : Option Addr) (len2 cap2 len3 cap3 len4 cap4 : Nat) (g2 g3 g4 : Nat → ByteArray) (eff : Int) (s6 s7 s8 : ByteArray) (w : World)
    (hI2 : StrsIn w ad2 len2 g2) (hI3 : StrsIn w ad3 len3 g3) (hI4 : StrsIn w ad4 len4 g4) (hs6 : s6.size ≤ 9223372036854775807) (hs7 : s7.size ≤ 9223372036854775807) (hs8 : s8.size ≤ 9223372036854775807) :
    Calls Try.prog 7 #[.bool b0, .bool b1, .slice ad2 len2 cap2, .slice ad3 len3 cap3, .slice ad4 len4 cap4, .int .u8 eff, .string s6, .string s7, .string s8, .bool b9] w fun e w' => e = .returned (.bool true) ∧ Below w.heap.size w w' := by
  by_cases h6 : 1048576 < s6.size
  · go_enter Try.func7, Try.ntmps7
    go_wp2_with fail
    refine (bytes25 b0 b1 b9 ad2 ad3 ad4 len2 cap2 len3 cap3 len4 cap4 g2 g3 g4 eff s6 s7 s8 w hI2.len_le hI3.len_le hI4.len_le hI2.el hI3.el hI4.el hI2.sz hI3.sz hI4.sz hs6 hs7 hs8).mono ?_
    rintro e w1 ⟨⟨bb, rfl⟩, rfl⟩
    cases bb <;> (go_wp2; go_ret; exact ⟨rfl, Below.refl _ _⟩)
  by_cases h7 : 1048576 < s7.size
  · go_enter Try.func7, Try.ntmps7
    go_wp2_with fail
    refine (bytes25 b0 b1 b9 ad2 ad3 ad4 len2 cap2 len3 cap3 len4 cap4 g2 g3 g4 eff s6 s7 s8 w hI2.len_le hI3.len_le hI4.len_le hI2.el hI3.el hI4.el hI2.sz hI3.sz hI4.sz hs6 hs7 hs8).mono ?_
    rintro e w1 ⟨⟨bb, rfl⟩, rfl⟩
    cases bb <;> (go_wp2; go_ret; exact ⟨rfl, Below.refl _ _⟩)
  by_cases h8 : 1048576 < s8.size
  · go_enter Try.func7, Try.ntmps7
    go_wp2_with fail
    refine (bytes25 b0 b1 b9 ad2 ad3 ad4 len2 cap2 len3 cap3 len4 cap4 g2 g3 g4 eff s6 s7 s8 w hI2.len_le hI3.len_le hI4.len_le hI2.el hI3.el hI4.el hI2.sz hI3.sz hI4.sz hs6 hs7 hs8).mono ?_
    rintro e w1 ⟨⟨bb, rfl⟩, rfl⟩
    cases bb <;> (go_wp2; go_ret; exact ⟨rfl, Below.refl _ _⟩)
  go_enter Try.func7, Try.ntmps7
  go_wp2_with fail
  refine (bytes25 b0 b1 b9 ad2 ad3 ad4 len2 cap2 len3 cap3 len4 cap4 g2 g3 g4 eff s6 s7 s8 w hI2.len_le hI3.len_le hI4.len_le hI2.el hI3.el hI4.el hI2.sz hI3.sz hI4.sz hs6 hs7 hs8).mono ?_
  rintro e w1 ⟨⟨bb, rfl⟩, rfl⟩
  cases bb
  · go_wp2
    go_ret
    exact ⟨rfl, Below.refl _ _⟩
  go_wp2_with fail
  refine (weight21 ad2 len2 cap2 g2 w1 hI2.len_le hI2.el hI2.sz).mono ?_
  rintro e w2 ⟨⟨t2, rfl, a1, a2, a3⟩, rfl⟩
  go_wp2_with fail
  refine (weight21 ad3 len3 cap3 g3 w2 hI3.len_le hI3.el hI3.sz).mono ?_
  rintro e w3 ⟨⟨t3, rfl, a4, a5, a6⟩, rfl⟩
  go_wp2_with fail
  refine (weight21 ad4 len4 cap4 g4 w3 hI4.len_le hI4.el hI4.sz).mono ?_
  rintro e w4 ⟨⟨t4, rfl, a7, a8, a9⟩, rfl⟩
  by_cases hsum : 1048576 < t2 + t3 + t4 + (s6.size : Int) + (s7.size : Int) + (s8.size : Int)
  · go_wp2
    go_ret
    exact ⟨rfl, Below.refl _ _⟩
  have l2 : len2 ≤ 1048576 := by have := a3 (by omega); omega
  have l3 : len3 ≤ 1048576 := by have := a6 (by omega); omega
  have l4 : len4 ≤ 1048576 := by have := a9 (by omega); omega
  clear a3 a6 a9
  go_wp2_with fail
  refine (clone22 ad2 len2 cap2 g2 w4 l2 hI2.el).mono ?_
  rintro e w5 ⟨ad2', rfl, k2, _, _, hb5⟩
  have k3 := hI3.el.below hb5
  have k4 := hI4.el.below hb5
  go_wp2_with fail
  refine (clone22 ad3 len3 cap3 g3 w5 l3 k3).mono ?_
  rintro e w6 ⟨ad3', rfl, k3', _, _, hb6⟩
  have k2' := k2.below hb6
  have k4' := k4.below hb6
  clear k2 k3 k4
  go_wp2_with fail
  refine (clone22 ad4 len4 cap4 g4 w6 l4 k4').mono ?_
  rintro e w7 ⟨ad4', rfl, m4, _, _, hb7⟩
  have m2 := k2'.below hb7
  have m3 := k3'.below hb7
  clear k2' k3' k4'
  have hbl : Below w4.heap.size w4 w7 := (hb5.trans (hb6.mono hb5.size)).trans (hb7.mono (Nat.le_trans hb5.size hb6.size))
  have hsz := hbl.size
  clear hb5 hb6 hb7 hI2 hI3 hI4
  obtain ⟨m, hm⟩ : ∃ m, mV (byB s6 g3 len3 s6) b9 (bySvc b1 g4 len4 s7) b0 (byB s6 g2 len2 s8) = m := ⟨_, rfl⟩
  obtain ⟨v0, hv0⟩ : ∃ v, grantV false eff m = v := ⟨_, rfl⟩
  obtain ⟨v1, hv1⟩ : ∃ v, grantV true eff m = v := ⟨_, rfl⟩
  have z0 := zzGrant23 false b0 b1 b9 ad2' ad3' ad4' len2 len2 len3 len3 len4 len4 g2 g3 g4 eff s6 s7 s8 w7 l2 l3 l4 m2 m3 m4
  rw [hm, hv0] at z0
  go_wp2_with fail
  refine z0.mono ?_
  clear z0
  rintro e w8 ⟨rfl, hb8⟩
  have z1 := zzGrant23 true b0 b1 b9 ad2' ad3' ad4' len2 len2 len3 len3 len4 len4 g2 g3 g4 eff s6 s7 s8 w8 l2 l3 l4 (m2.below hb8) (m3.below hb8) (m4.below hb8)
  rw [hm, hv1] at z1
  go_wp2_with fail
  refine z1.mono ?_
  clear z1
  rintro e w9 ⟨rfl, hb9⟩
  have hbl9 : Below w4.heap.size w4 w9 := (hbl.trans (hb8.mono hsz)).trans (hb9.mono (Nat.le_trans hsz hb8.size))
  clear hb8 hb9 hbl hsz m2 m3 m4 hm
  by_cases e1 : m = 0
  · have y0 : v0 = 0 := by rw [← hv0]; unfold grantV; simp [e1]
    by_cases e2 : eff = 4
    · have y1 : v1 = 4 := by rw [← hv1]; unfold grantV; simp [e1, e2]
      have q2 : (eff == 4) = true := by rw [beq_iff_eq]; exact e2
      clear e1 e2 hv0 hv1
      subst y0 y1
      go_wp2
      go_ret
      exact ⟨rfl, hbl9⟩
    · have y1 : v1 = 3 := by rw [← hv1]; unfold grantV; simp [e1, e2]
      have q2 : (eff == 4) = false := by rw [beq_eq_false_iff_ne]; exact e2
      clear e1 e2 hv0 hv1
      subst y0 y1
      go_wp2
      go_ret
      exact ⟨rfl, hbl9⟩
  · have y1 : v1 = 0 := by rw [← hv1]; unfold grantV; simp [e1]
    by_cases e2 : eff = 4
    · have y0 : v0 = 4 := by rw [← hv0]; unfold grantV; simp [e1, e2]
      have q2 : (eff == 4) = true := by rw [beq_iff_eq]; exact e2
      clear e1 e2 hv0 hv1
      subst y0 y1
      go_wp2
      go_ret
      exact ⟨rfl, hbl9⟩
    · have y0 : v0 = m := by rw [← hv0]; unfold grantV; simp [e1, e2]
      have q2 : (eff == 4) = false := by rw [beq_eq_false_iff_ne]; exact e2
      have q3 : (m == 0) = false := by rw [beq_eq_false_iff_ne]; exact e1
      clear e1 e2 hv0 hv1
      subst y0 y1
      go_wp2
      go_ret
      exact ⟨rfl, hbl9⟩

end Go.Proofs.Qxb6605336a
