/-
  WALK for 'FnSearchAtScript': an ask at a negative place; an ask (18).
-/
import Derived.Test.Qxb6605336aSearchD
namespace Go.Proofs.Qxb6605336a
open Go.RowKit Go.Deep Go.ChangeAt Go.WideShapes Go.ChangeShapes

theorem occ_neg {p s : ByteArray} {x : Int} (h : x < 0) : ¬ OccAt p s x := fun g => by have := g.1; omega

set_option maxRecDepth 100000 in
set_option maxHeartbeats 1000000 in
theorem at33_neg (p s : ByteArray) (F : Nat) (x : Int) (w : World) (hp : p.size ≤ 1048576) (hx : x < 0) (hx2 : -9223372036854775808 ≤ x) (hS : St p s w F 0) :
    Calls Try.prog 33 #[.pointer (some ⟨F, 0, none⟩), .string p, .string s, .int .i64 x] w fun e w' => AnsIs e (OccAt p s x) ∧ St p s w' F 0 ∧ Only F w w' := by
  obtain ⟨ad, l, c, hc0, hf0⟩ : ∃ ad l c, w.cell? ⟨F, 0, none⟩ = some (.slice ad l c) ∧ w.frozen? ⟨F, 0, none⟩ = false := by
    rcases hS with ⟨_, hr⟩ | ⟨B, read, n, hR, _, _⟩
    · exact ⟨none, 0, 0, hr.cell (by omega), hr.frozen 0⟩
    · exact ⟨_, _, _, hR.c0, hR.fz 0⟩
  have he := fun w => Lib.run_eql_slice_nil (P := Try.prog) w 36 3 ad l c 0 0 Try.underlying36
  go_enter Try.func33, Try.ntmps33
  go_upto_if 14 with fail
  go_cut [] (fun wc => ∃ B read n, Rdy p wc F B read n ∧ Kmp.Inv (bt p) (bt s) p.size s.size 0 read n ∧ read ≤ 9223372036854775807 ∧ Only F w wc)
  case first =>
    rcases hS with ⟨h0, hr⟩ | ⟨B, read, n, hR, hI, hb⟩
    · have e0 : w.cell? ⟨F, 0, none⟩ = some (.slice none 0 0) := hr.cell (by omega)
      rw [hc0] at e0
      simp only [Option.some.injEq, Value.slice.injEq] at e0
      obtain ⟨rfl, rfl, rfl⟩ := e0
      have hlt := hr.lt
      go_wp2_with fail
      refine (borders40 p _ hp).mono ?_
      rintro e w1 ⟨rfl, hT, hsz, hb1⟩
      have k0 := (hb1.cell (p := ⟨F, 0, none⟩) hlt).trans hc0
      have k1 := (hb1.frozen (p := ⟨F, 0, none⟩) hlt).trans hf0
      go_wp2
      go_meet
      exact ⟨w.heap.size, 0, 0, ready_of_fresh hr hT hb1, Kmp.inv_fresh, by omega, ((Only.refl F w).below hb1).setCell rfl _⟩
    · have e0 := hR.c0
      rw [hc0] at e0
      simp only [Option.some.injEq, Value.slice.injEq] at e0
      obtain ⟨rfl, rfl, rfl⟩ := e0
      go_wp2
      go_meet
      exact ⟨B, read, n, hR, hI, hb, Only.refl F w⟩
  case rest =>
    obtain ⟨B, read, n, hR, hI, hb, hO⟩ := hcut
    clear hc0 hf0 he hS
    have c1 := hR.c1
    have c2 := hR.c2
    have hn := hI.nm
    have hlow := hI.low
    have hw : IntKind.i64.wrap ((read : Int) - (n : Int)) = (read : Int) - (n : Int) := IntWalk.i64_in _ (by omega)
    have hle : ¬ ((read : Int) ≤ x) := by omega
    have hd : decide ((read : Int) - (n : Int) < x) = false := decide_eq_false (by omega)
    have e1 : ((read : Int) - (n : Int) == x) = false := by rw [beq_eq_false_iff_ne]; omega
    go_wp2
    refine wp_loop_rounds 1 ?_
    rw [rounds_succ]
    go_wp2
    go_quiet (fail)
    go_wp2
    refine wp_loop_rounds 1 ?_
    rw [rounds_succ]
    go_wp2
    go_quiet (fail)
    go_wp2
    go_quiet (fail)
    go_wp2
    go_ret
    exact ⟨AnsIs.no rfl (occ_neg hx), .inr ⟨B, read, n, hR, hI, hb⟩, ((hO.drewN _).drewN _).drewN _⟩

/-- 18: an ask: at x, not before the last place asked at. -/
theorem ask18 (p s : ByteArray) (F X0 : Nat) (x : Int) (w : World) (hp : p.size ≤ 1048576) (hs : s.size ≤ 1048576) (hx : -9223372036854775808 ≤ x ∧ x ≤ 9223372036854775807) (hX0 : X0 ≤ x.toNat) (hS : St p s w F X0) :
    Calls Try.prog 18 #[.pointer (some ⟨F, 0, none⟩), .string p, .string s, .int .i64 x] w fun e w' => AnsIs e (OccAt p s x) ∧ St p s w' F x.toNat ∧ Only F w w' := by
  by_cases hn : x < 0
  · have h0 : X0 = 0 := by omega
    have e0 : x.toNat = 0 := by omega
    have HE : Hid (x.toNat = 0) := e0
    clear e0
    rw [h0] at hS
    clear h0 hX0
    go_enter Try.func18, Try.ntmps18
    go_wp2_with fail
    refine (at33_neg p s F x w hp hn hx.1 hS).mono ?_
    rintro e w' ⟨⟨b, rfl, hb⟩, hS', hO⟩
    go_wp2
    go_ret
    rw [HE.out]
    exact ⟨⟨b, rfl, hb⟩, hS', hO⟩
  · obtain ⟨X, rfl⟩ := Int.eq_ofNat_of_zero_le (by omega : 0 ≤ x)
    rw [Int.toNat_natCast] at hX0 ⊢
    go_enter Try.func18, Try.ntmps18
    go_wp2_with fail
    refine (at33 p s F X X0 w hp hs (by omega) hX0 hS).mono ?_
    rintro e w' ⟨⟨b, rfl, hb⟩, hS', hO⟩
    go_wp2
    go_ret
    exact ⟨⟨b, rfl, hb⟩, hS', hO⟩

end Go.Proofs.Qxb6605336a
