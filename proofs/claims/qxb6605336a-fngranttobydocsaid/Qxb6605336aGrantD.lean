/-
  WALKS for the two laws on 'grantTo': grantTo (34), ZZGrantTo (23).
-/
import Derived.Test.Qxb6605336aGrantC
namespace Go.Proofs.Qxb6605336a
open Go.RowKit Go.Deep Go.ChangeAt Go.WideShapes Go.ChangeShapes

/-- What grantTo answers: from 'not', the effect and what match says. -/
def grantV (bn : Bool) (eff m : Int) : Int :=
  if bn = true then (if m = 0 then (if eff = 4 then 4 else 3) else 0) else (if m = 0 then 0 else if eff = 4 then 4 else m)

set_option maxHeartbeats 1000000 in
theorem grant34 (P R : Nat) (bn : Bool) (eff m : Int) (w : World) (h0 : w.cell? ⟨P, 0, none⟩ = some (.bool bn))
    (hM : Calls Try.prog 41 #[.pointer (some ⟨P, 0, none⟩), .pointer (some ⟨R, 0, none⟩)] w fun e w' => e = .returned (.int .u8 m) ∧ ∃ n, w' = w.drewN n) :
    Calls Try.prog 34 #[.pointer (some ⟨P, 0, none⟩), .int .u8 eff, .pointer (some ⟨R, 0, none⟩)] w fun e w' => e = .returned (.int .u8 (grantV bn eff m)) ∧ ∃ n, w' = w.drewN n := by
  have HM : Hid (Calls Try.prog 41 #[.pointer (some ⟨P, 0, none⟩), .pointer (some ⟨R, 0, none⟩)] w fun e w' => e = .returned (.int .u8 m) ∧ ∃ n, w' = w.drewN n) := hM
  clear hM
  obtain ⟨v, hv⟩ : ∃ v, grantV bn eff m = v := ⟨_, rfl⟩
  rw [hv]
  have HV : Hid (grantV bn eff m = v) := hv
  clear hv
  cases bn
  · by_cases e1 : m = 0
    · have q1 : (m == 0) = true := by rw [beq_iff_eq]; exact e1
      have hv : v = 0 := by rw [← HV.out]; unfold grantV; simp [e1]
      subst hv
      clear e1
      go_enter Try.func34, Try.ntmps34
      go_wp2_with fail
      refine HM.out.mono ?_
      rintro e w' ⟨rfl, n, rfl⟩
      go_wp2
      go_ret
      exact ⟨rfl, _, rfl⟩
    · have q1 : (m == 0) = false := by rw [beq_eq_false_iff_ne]; exact e1
      by_cases e2 : eff = 4
      · have q2 : (eff == 4) = true := by rw [beq_iff_eq]; exact e2
        have hv : v = 4 := by rw [← HV.out]; unfold grantV; simp [e1, e2]
        subst hv
        clear e1 e2
        go_enter Try.func34, Try.ntmps34
        go_wp2_with fail
        refine HM.out.mono ?_
        rintro e w' ⟨rfl, n, rfl⟩
        go_wp2
        go_ret
        exact ⟨rfl, _, rfl⟩
      · have q2 : (eff == 4) = false := by rw [beq_eq_false_iff_ne]; exact e2
        have hv : v = m := by rw [← HV.out]; unfold grantV; simp [e1, e2]
        subst hv
        clear e1 e2
        go_enter Try.func34, Try.ntmps34
        go_wp2_with fail
        refine HM.out.mono ?_
        rintro e w' ⟨rfl, n, rfl⟩
        go_wp2
        go_ret
        exact ⟨rfl, _, rfl⟩
  · by_cases e1 : m = 0
    · have q1 : (m == 0) = true := by rw [beq_iff_eq]; exact e1
      by_cases e2 : eff = 4
      · have q2 : (eff == 4) = true := by rw [beq_iff_eq]; exact e2
        have hv : v = 4 := by rw [← HV.out]; unfold grantV; simp [e1, e2]
        subst hv
        clear e1 e2
        go_enter Try.func34, Try.ntmps34
        go_wp2_with fail
        refine HM.out.mono ?_
        rintro e w' ⟨rfl, n, rfl⟩
        go_wp2
        go_ret
        exact ⟨rfl, _, rfl⟩
      · have q2 : (eff == 4) = false := by rw [beq_eq_false_iff_ne]; exact e2
        have hv : v = 3 := by rw [← HV.out]; unfold grantV; simp [e1, e2]
        subst hv
        clear e1 e2
        go_enter Try.func34, Try.ntmps34
        go_wp2_with fail
        refine HM.out.mono ?_
        rintro e w' ⟨rfl, n, rfl⟩
        go_wp2
        go_ret
        exact ⟨rfl, _, rfl⟩
    · have q1 : (m == 0) = false := by rw [beq_eq_false_iff_ne]; exact e1
      have hv : v = 0 := by rw [← HV.out]; unfold grantV; simp [e1]
      subst hv
      clear e1
      go_enter Try.func34, Try.ntmps34
      go_wp2_with fail
      refine HM.out.mono ?_
      rintro e w' ⟨rfl, n, rfl⟩
      go_wp2
      go_ret
      exact ⟨rfl, _, rfl⟩

theorem Elems.below {w w' : World} {ad : Option Addr} {len : Nat} {f : Nat → Value} (h : Elems w ad len f) (hb : Below w.heap.size w w') : Elems w' ad len f :=
  ⟨h.1, fun x hx i hi => (hb.cell (lt_of_cell (h.2 x hx i hi))).trans (h.2 x hx i hi)⟩

theorem cell_box (w : World) (c : Array Value) (t : TypeId) (i : Nat) (v : Value) (h : c[i]? = some v) : (w.alloc (.cells c t)).cell? ⟨w.heap.size, i, none⟩ = some v := by
  have hi : i < c.size := by
    by_cases hi : i < c.size
    · exact hi
    · rw [Array.getElem?_eq_none (by omega)] at h; cases h
  have hr := (World.rowIs_alloc w c t (fun j => if j = i then v else c[j]?.getD v) (fun j hj => ?_)).cell hi
  · simpa using hr
  · show c[j]? = some (if j = i then v else c[j]?.getD v)
    by_cases e : j = i
    · rw [if_pos e, e]; exact h
    · rw [if_neg e]; simp [hj]

theorem call34 (bn b0 b1 b9 : Bool) (ad2 ad3 ad4 : Option Addr) (len2 cap2 len3 cap3 len4 cap4 : Nat) (g2 g3 g4 : Nat → ByteArray) (eff : Int) (s6 s7 s8 : ByteArray) (w W : World)
    (hW : W = (w.alloc (.cells #[.bool bn, .bool b0, .bool b1, .slice ad2 len2 cap2, .slice ad3 len3 cap3, .slice ad4 len4 cap4] 59)).alloc (.cells #[.string s6, .string s7, .string s8, .bool b9] 62))
    (hm2 : len2 ≤ 1048576) (hm3 : len3 ≤ 1048576) (hm4 : len4 ≤ 1048576) (hE2 : Elems w ad2 len2 (fun i => .string (g2 i))) (hE3 : Elems w ad3 len3 (fun i => .string (g3 i))) (hE4 : Elems w ad4 len4 (fun i => .string (g4 i))) :
    Calls Try.prog 34 #[.pointer (some ⟨w.heap.size, 0, none⟩), .int .u8 eff, .pointer (some ⟨w.heap.size + 1, 0, none⟩)] W fun e w' =>
      e = .returned (.int .u8 (grantV bn eff (mV (byB s6 g3 len3 s6) b9 (bySvc b1 g4 len4 s7) b0 (byB s6 g2 len2 s8)))) ∧ Below w.heap.size w w' := by
  have hb1 : Below w.heap.size w (w.alloc (.cells #[.bool bn, .bool b0, .bool b1, .slice ad2 len2 cap2, .slice ad3 len3 cap3, .slice ad4 len4 cap4] 59)) := (Below.refl _ _).alloc (Nat.le_refl _) _
  have hb : Below w.heap.size w W := by rw [hW]; exact hb1.alloc hb1.size _
  have hP : ∀ i v, (#[.bool bn, .bool b0, .bool b1, .slice ad2 len2 cap2, .slice ad3 len3 cap3, .slice ad4 len4 cap4] : Array Value)[i]? = some v → W.cell? ⟨w.heap.size, i, none⟩ = some v := by
    intro i v h
    have h1 := cell_box w _ 59 i v h
    rw [hW]
    have h2 : Below (w.heap.size + 1) (w.alloc (.cells #[.bool bn, .bool b0, .bool b1, .slice ad2 len2 cap2, .slice ad3 len3 cap3, .slice ad4 len4 cap4] 59)) ((w.alloc (.cells #[.bool bn, .bool b0, .bool b1, .slice ad2 len2 cap2, .slice ad3 len3 cap3, .slice ad4 len4 cap4] 59)).alloc (.cells #[.string s6, .string s7, .string s8, .bool b9] 62)) := (Below.refl _ _).alloc (by simp) _
    exact (h2.cell (p := ⟨w.heap.size, i, none⟩) (Nat.lt_succ_self _)).trans h1
  have hR : ∀ i v, (#[.string s6, .string s7, .string s8, .bool b9] : Array Value)[i]? = some v → W.cell? ⟨w.heap.size + 1, i, none⟩ = some v := by
    intro i v h
    have h1 := cell_box (w.alloc (.cells #[.bool bn, .bool b0, .bool b1, .slice ad2 len2 cap2, .slice ad3 len3 cap3, .slice ad4 len4 cap4] 59)) _ 62 i v h
    rw [hW]
    simpa using h1
  refine (grant34 w.heap.size (w.heap.size + 1) bn eff _ W (hP 0 _ rfl) (match41 w.heap.size (w.heap.size + 1) b0 b1 b9 ad2 ad3 ad4 len2 cap2 len3 cap3 len4 cap4 g2 g3 g4 s6 s7 s8 W hm2 hm3 hm4 (hE2.below hb) (hE3.below hb) (hE4.below hb)
    (hP 1 _ rfl) (hP 2 _ rfl) (hP 3 _ rfl) (hP 4 _ rfl) (hP 5 _ rfl) (hR 0 _ rfl) (hR 1 _ rfl) (hR 2 _ rfl) (hR 3 _ rfl))).mono ?_
  rintro e w' ⟨rfl, n, rfl⟩
  exact ⟨rfl, below_drewN hb n⟩

set_option maxRecDepth 100000 in
set_option maxHeartbeats 1000000 in
theorem zzGrant23 (bn b0 b1 b9 : Bool) (ad2 ad3 ad4 : Option Addr) (len2 cap2 len3 cap3 len4 cap4 : Nat) (g2 g3 g4 : Nat → ByteArray) (eff : Int) (s6 s7 s8 : ByteArray) (w : World)
    (hm2 : len2 ≤ 1048576) (hm3 : len3 ≤ 1048576) (hm4 : len4 ≤ 1048576) (hE2 : Elems w ad2 len2 (fun i => .string (g2 i))) (hE3 : Elems w ad3 len3 (fun i => .string (g3 i))) (hE4 : Elems w ad4 len4 (fun i => .string (g4 i))) :
    Calls Try.prog 23 #[.bool bn, .bool b0, .bool b1, .slice ad2 len2 cap2, .slice ad3 len3 cap3, .slice ad4 len4 cap4, .int .u8 eff, .string s6, .string s7, .string s8, .bool b9] w fun e w' =>
      e = .returned (.int .u8 (grantV bn eff (mV (byB s6 g3 len3 s6) b9 (bySvc b1 g4 len4 s7) b0 (byB s6 g2 len2 s8)))) ∧ Below w.heap.size w w' := by
  go_enter Try.func23, Try.ntmps23
  go_wp2_with fail
  refine (call34 bn b0 b1 b9 ad2 ad3 ad4 len2 cap2 len3 cap3 len4 cap4 g2 g3 g4 eff s6 s7 s8 w _ rfl hm2 hm3 hm4 hE2 hE3 hE4).mono ?_
  rintro e w' ⟨rfl, hb⟩
  go_wp2
  go_ret
  exact ⟨rfl, hb⟩
end Go.Proofs.Qxb6605336a
