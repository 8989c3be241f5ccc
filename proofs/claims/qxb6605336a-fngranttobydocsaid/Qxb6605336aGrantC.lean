/-
  WALKS for the two laws on 'grantTo': match (41), grantTo (34), ZZGrantTo (23).
-/
import Derived.Test.Qxb6605336aGrantB
import Derived.Deep.DeepCutAuto
namespace Go.Proofs.Qxb6605336a
open Go.RowKit Go.Deep Go.ChangeAt Go.WideShapes Go.ChangeShapes

/-- What 'match' answers. bA: by its ARN; bS: by its service; bC: by its account. -/
def mV (bA b9 bS b0 bC : Bool) : Int := if (bA && b9) || bS then 3 else if bA || b0 then 2 else if bC then 1 else 0

/-- By its ARN (or account): the ARN is not empty, and v is among them. -/
def byB (s : ByteArray) (g : Nat → ByteArray) (len : Nat) (v : ByteArray) : Bool := !s.toList.isEmpty && hasB g len v
/-- By its service. -/
def bySvc (every : Bool) (g : Nat → ByteArray) (len : Nat) (s : ByteArray) : Bool := !s.toList.isEmpty && (every || hasB g len s)

set_option maxRecDepth 100000 in
set_option maxHeartbeats 1000000 in
theorem match41 (P R : Nat) (b0 b1 b9 : Bool) (ad2 ad3 ad4 : Option Addr) (len2 cap2 len3 cap3 len4 cap4 : Nat) (g2 g3 g4 : Nat → ByteArray) (s6 s7 s8 : ByteArray) (w : World)
    (hm2 : len2 ≤ 1048576) (hm3 : len3 ≤ 1048576) (hm4 : len4 ≤ 1048576) (hE2 : Elems w ad2 len2 (fun i => .string (g2 i))) (hE3 : Elems w ad3 len3 (fun i => .string (g3 i))) (hE4 : Elems w ad4 len4 (fun i => .string (g4 i)))
    (p1 : w.cell? ⟨P, 1, none⟩ = some (.bool b0)) (p2 : w.cell? ⟨P, 2, none⟩ = some (.bool b1)) (p3 : w.cell? ⟨P, 3, none⟩ = some (.slice ad2 len2 cap2)) (p4 : w.cell? ⟨P, 4, none⟩ = some (.slice ad3 len3 cap3)) (p5 : w.cell? ⟨P, 5, none⟩ = some (.slice ad4 len4 cap4))
    (r0 : w.cell? ⟨R, 0, none⟩ = some (.string s6)) (r1 : w.cell? ⟨R, 1, none⟩ = some (.string s7)) (r2 : w.cell? ⟨R, 2, none⟩ = some (.string s8)) (r3 : w.cell? ⟨R, 3, none⟩ = some (.bool b9)) :
    Calls Try.prog 41 #[.pointer (some ⟨P, 0, none⟩), .pointer (some ⟨R, 0, none⟩)] w fun e w' => e = .returned (.int .u8 (mV (byB s6 g3 len3 s6) b9 (bySvc b1 g4 len4 s7) b0 (byB s6 g2 len2 s8))) ∧ ∃ n, w' = w.drewN n := by
  obtain ⟨bA, hA⟩ : ∃ b, byB s6 g3 len3 s6 = b := ⟨_, rfl⟩
  obtain ⟨bS, hS⟩ : ∃ b, bySvc b1 g4 len4 s7 = b := ⟨_, rfl⟩
  obtain ⟨bC, hC⟩ : ∃ b, byB s6 g2 len2 s8 = b := ⟨_, rfl⟩
  rw [hA, hS, hC]
  have HA : Hid (byB s6 g3 len3 s6 = bA) := hA
  have HS : Hid (bySvc b1 g4 len4 s7 = bS) := hS
  have HC : Hid (byB s6 g2 len2 s8 = bC) := hC
  clear hA hS hC
  go_enter Try.func41, Try.ntmps41
  go_wp2
  go_cut [5] (fun v wc => v = .bool bA ∧ ∃ n, wc = w.drewN n)
  case first =>
    cases hn : s6.toList.isEmpty
    · have hv : hasB g3 len3 s6 = bA := by rw [← HA.out]; unfold byB; rw [hn]; rfl
      go_quiet ((go_at_call 46; refine (contains46 ad3 len3 cap3 g3 s6 _ hm3 (by exact hE3)).mono ?_; rintro e w'' ⟨rfl, rfl⟩; exact ⟨rfl, _, rfl⟩))
      go_wp2
      go_meet
      exact ⟨rfl, _, rfl⟩
    · have hv : bA = false := by rw [← HA.out]; unfold byB; rw [hn]; rfl
      subst hv
      go_quiet (fail)
      go_wp2
      go_meet
      exact ⟨rfl, _, rfl⟩
  case rest =>
    obtain ⟨rfl, n, rfl⟩ := hcut
    cases bA
    · go_upto_region 3 with fail
      go_cut [22] (fun v wc => v = .bool bS ∧ ∃ n, wc = w.drewN n)
      case first =>
        cases hn : s7.toList.isEmpty
        · cases b1
          · have hv : hasB g4 len4 s7 = bS := by rw [← HS.out]; unfold bySvc; rw [hn]; rfl
            go_quiet ((go_at_call 46; refine (contains46 ad4 len4 cap4 g4 s7 _ hm4 (by exact hE4)).mono ?_; rintro e w'' ⟨rfl, rfl⟩; exact ⟨rfl, _, rfl⟩))
            go_wp2
            go_meet
            exact ⟨rfl, _, World.drewN_drewN _ _ _⟩
          · have hv : bS = true := by rw [← HS.out]; unfold bySvc; rw [hn]; rfl
            subst hv
            go_quiet (fail)
            go_wp2
            go_meet
            exact ⟨rfl, _, World.drewN_drewN _ _ _⟩
        · have hv : bS = false := by rw [← HS.out]; unfold bySvc; rw [hn]; rfl
          subst hv
          go_quiet (fail)
          go_wp2
          go_meet
          exact ⟨rfl, _, World.drewN_drewN _ _ _⟩
      case rest =>
        obtain ⟨rfl, n2, rfl⟩ := hcut
        cases bS
        · cases b0
          · go_upto_region 8 with fail
            go_cut [58] (fun v wc => v = .bool bC ∧ ∃ n, wc = w.drewN n)
            case first =>
              cases hn : s6.toList.isEmpty
              · have hv : hasB g2 len2 s8 = bC := by rw [← HC.out]; unfold byB; rw [hn]; rfl
                go_quiet ((go_at_call 46; refine (contains46 ad2 len2 cap2 g2 s8 _ hm2 (by exact hE2)).mono ?_; rintro e w'' ⟨rfl, rfl⟩; exact ⟨rfl, _, rfl⟩))
                go_wp2
                go_meet
                exact ⟨rfl, _, World.drewN_drewN _ _ _⟩
              · have hv : bC = false := by rw [← HC.out]; unfold byB; rw [hn]; rfl
                subst hv
                go_quiet (fail)
                go_wp2
                go_meet
                exact ⟨rfl, _, World.drewN_drewN _ _ _⟩
            case rest =>
              obtain ⟨rfl, n3, rfl⟩ := hcut
              cases bC
              · go_wp2
                go_ret
                exact ⟨rfl, _, rfl⟩
              · go_wp2
                go_ret
                exact ⟨rfl, _, rfl⟩
          · go_wp2
            go_ret
            exact ⟨rfl, _, rfl⟩
        · go_wp2
          go_ret
          exact ⟨rfl, _, rfl⟩
    · cases b9
      · go_upto_region 3 with fail
        go_cut [22] (fun v wc => v = .bool bS ∧ ∃ n, wc = w.drewN n)
        case first =>
          cases hn : s7.toList.isEmpty
          · cases b1
            · have hv : hasB g4 len4 s7 = bS := by rw [← HS.out]; unfold bySvc; rw [hn]; rfl
              go_quiet ((go_at_call 46; refine (contains46 ad4 len4 cap4 g4 s7 _ hm4 (by exact hE4)).mono ?_; rintro e w'' ⟨rfl, rfl⟩; exact ⟨rfl, _, rfl⟩))
              go_wp2
              go_meet
              exact ⟨rfl, _, World.drewN_drewN _ _ _⟩
            · have hv : bS = true := by rw [← HS.out]; unfold bySvc; rw [hn]; rfl
              subst hv
              go_quiet (fail)
              go_wp2
              go_meet
              exact ⟨rfl, _, World.drewN_drewN _ _ _⟩
          · have hv : bS = false := by rw [← HS.out]; unfold bySvc; rw [hn]; rfl
            subst hv
            go_quiet (fail)
            go_wp2
            go_meet
            exact ⟨rfl, _, World.drewN_drewN _ _ _⟩
        case rest =>
          obtain ⟨rfl, n2, rfl⟩ := hcut
          cases bS
          · go_wp2
            go_ret
            exact ⟨rfl, _, rfl⟩
          · go_wp2
            go_ret
            exact ⟨rfl, _, rfl⟩
      · go_wp2
        go_ret
        exact ⟨rfl, _, rfl⟩
end Go.Proofs.Qxb6605336a
