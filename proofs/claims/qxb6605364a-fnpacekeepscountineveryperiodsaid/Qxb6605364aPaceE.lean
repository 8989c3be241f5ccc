/-
  WALK: the law 'FnPaceKeepsCountInEveryPeriod' (5), its main part.
-/
import Derived.Test.Qxb6605364aPaceD
namespace Go.Proofs.Qxb6605364a
open Go.RowKit Go.Deep Go.ChangeAt Go.WideShapes Go.ChangeShapes

theorem pI_facts (m c : Int) (m0 : 1 ≤ m) (c0 : 2 ≤ c) : 1 ≤ pI m c ∧ pI m c ≤ m := by
  obtain ⟨i0, h1, h2⟩ := pI_mul m c (by omega) c0
  have hd : 2 ≤ c - c / 10 := by omega
  generalize pI m c = I at *
  generalize c - c / 10 = d at *
  have hI : 1 ≤ I := by
    by_cases h : I = 0
    · subst h; simp at h1; omega
    · omega
  have e : (I - 1) * d = d * I - d := by rw [Int.sub_mul, Int.one_mul, Int.mul_comm]
  have h2I : 2 * (I - 1) ≤ d * (I - 1) := Int.mul_le_mul_of_nonneg_right hd (by omega)
  rw [Int.mul_comm d (I - 1)] at h2I
  omega

set_option maxRecDepth 100000 in
set_option maxHeartbeats 4000000 in
theorem law5_main (m c : Int) (ad : Option Addr) (n cap : Nat) (f : Nat → Int) (w : World) (m0 : 1 ≤ m) (m1 : m ≤ 1099511627776) (c0 : 2 ≤ c) (c1 : c ≤ 18446744073709551615) (hn : n ≤ 65536)
    (hE : Elems w ad n (fun i => .int .u64 (f i))) (hf0 : ∀ i, i < n → 0 ≤ f i) :
    Calls Try.prog 5 #[.int .u64 m, .int .u64 c, .slice ad n cap] w fun e w' => e = .returned (.bool true) ∧ Below w.heap.size w w' := by
  have hs : m + (c - c / 10) - 1 ≤ 18446744073709551615 := by omega
  have hmk := run_make_row' (P := Try.prog) 30 22 (.int .u64 0) 8 Try.underlying30 Try.info22 rfl .i64 .i64 n (by omega) (by omega)
  have he := fun w => Lib.run_eql_slice_nil (P := Try.prog) w 30 22 ad n cap 0 0 Try.underlying30
  have q2 : (m == 0) = false := by rw [beq_eq_false_iff_ne]; omega
  have HF0 : Hid (∀ i, i < n → 0 ≤ f i) := hf0
  clear hf0
  go_enter Try.func5, Try.ntmps5
  go_wp2_with fail
  refine (bytes9 m c ad n cap w (by omega)).mono ?_
  rintro e w0 ⟨⟨bb, rfl⟩, rfl⟩
  cases bb
  · go_wp2
    go_ret
    exact ⟨rfl, Below.refl _ _⟩
  go_wp2
  go_loopg [7] n (fun g iv wr => ∃ i : Nat, iv = .int .i64 i ∧ g = n - i ∧ i ≤ n ∧ Hid (∀ j, j < i → f j ≤ 1099511627776) ∧ w0 = wr)
  case atStart => exact ⟨0, rfl, rfl, Nat.zero_le _, (fun j hj => absurd hj (Nat.not_lt_zero _)), rfl⟩
  case round =>
    obtain ⟨i, rfl, rfl, hi, HA, rfl⟩ := hrel
    by_cases hlt : i < n
    · obtain ⟨x, x1, x2, x3⟩ := word_at cap hE hlt
      have hz := HF0.out i hlt
      obtain ⟨V, hV⟩ : ∃ V, f i = V := ⟨_, rfl⟩
      have HV : Hid (f i = V) := hV
      rw [hV] at x3 hz
      clear hV
      by_cases hbig : 1099511627776 < V
      · go_wp2
        go_ret
        exact ⟨rfl, Below.refl _ _⟩
      · go_wp2
        go_roundg (n - (i + 1))
        case measure => omega
        case rel =>
          refine ⟨i + 1, by go_num, rfl, by omega, ?_, rfl⟩
          intro j hj
          by_cases e : j = i
          · rw [e, HV.out]; omega
          · exact HA.out j (by omega)
    · have HB : Hid (∀ i, i < n → 0 ≤ f i ∧ f i ≤ 1099511627776) := fun j hj => ⟨HF0.out j hj, HA.out j (by omega)⟩
      clear HA HF0
      go_upto_if 72 with fail
      clear hlt hi
      go_cut [2] (fun v wc => ∃ ad' cap', v = .slice ad' n cap' ∧ Elems wc ad' n (fun i => .int .u64 (f i)) ∧ Below w0.heap.size w0 wc)
      case first =>
        cases ad with
        | none =>
          go_wp2
          go_meet
          exact ⟨none, cap, rfl, hE, Below.refl _ _⟩
        | some y =>
          go_wp2
          go_loopg [9] n (fun g iv wr => ∃ k : Nat, k ≤ n ∧ g = n - k ∧ iv = .int .i64 k ∧ wr.rowIs w0.heap.size 22 n (fun j => if j < k then .int .u64 (f j) else .int .u64 0) ∧ Below w0.heap.size w0 wr)
          case atStart =>
            exact ⟨0, Nat.zero_le _, rfl, rfl, (World.rowIs_made w0 (.int .u64 0) n 22).congr (fun i _ => by simp), (Below.refl _ _).alloc (Nat.le_refl _) _⟩
          case round =>
            clear hmk he
            obtain ⟨k, hk, rfl, rfl, hr, hbl⟩ := hrel
            by_cases hlt : k < n
            · obtain ⟨x, x1, x2, x3⟩ := word_at cap hE hlt
              have c1 := (hbl.cell x1).trans x3
              have c2 := hr.cell hlt
              have hfz := hr.frozen k
              obtain ⟨V, hV⟩ : ∃ V, f k = V := ⟨_, rfl⟩
              have HV : Hid (f k = V) := hV
              rw [hV] at c1
              clear hV x3
              rw [if_neg (Nat.lt_irrefl k)] at c2
              go_wp2
              go_roundg (n - (k + 1))
              case measure => omega
              case rel =>
                refine ⟨k + 1, by omega, rfl, by go_num, (hr.set k _).congr ?_, below_set hbl (Nat.le_refl _) _⟩
                intro j _
                by_cases h1 : j = k
                · subst h1; simp [HV.out]
                · have h2 : (j < k + 1) = (j < k) := by simp; omega
                  simp only [h1, if_false, h2]
            · have hr2 : wr.rowIs w0.heap.size 22 n (fun j => .int .u64 (f j)) := hr.congr (fun i hi => by rw [if_pos (by omega)])
              clear hr
              go_wp2
              go_meet
              exact ⟨_, _, rfl, row_elems hr2, hbl⟩
      case rest =>
        clear he hE
        obtain ⟨ad', cap', rfl, hE, hb1⟩ := hcut
        obtain ⟨i1, i2⟩ := pI_facts m c m0 c0
        obtain ⟨t0, t9⟩ := pT_le m c (by omega) c0
        obtain ⟨_, hcov, _⟩ := pI_mul m c (by omega) c0
        have hT : pT m c = c / 10 * pI m c := rfl
        have hnew := new6B m c wc (by omega) (by omega) c0 c1 hs
        obtain ⟨I, hI⟩ : ∃ I, pI m c = I := ⟨_, rfl⟩
        obtain ⟨T, hTT⟩ : ∃ T, pT m c = T := ⟨_, rfl⟩
        rw [hI] at i1 i2 hcov hT hnew
        rw [hTT] at t0 t9 hT hnew
        have HC : Hid (T = c / 10 * I ∧ m ≤ (c - c / 10) * I) := ⟨hT, hcov⟩
        have i3 : I ≤ 1099511627776 := by omega
        have t1 : T ≤ 2049638230412172402 := by omega
        have qI : (I == 0) = false := by rw [beq_eq_false_iff_ne]; omega
        clear hI hTT hT hcov t9 i2 hs
        go_wp2_with fail
        refine hnew.mono ?_
        clear hnew
        rintro e w2 ⟨rfl, hb2⟩
        have hb02 := hb1.trans (hb2.mono hb1.size)
        replace hE := hE.kept hb2
        clear hb1 hb2
        go_wp2
        go_loopg [10, 11, 12, 13, 15, 16] n (fun g ivv tv nv gv pv iv wr => ∃ (i : Nat) (nx ga prev : Int) (tm : Nat → Int), ivv = .int .u64 I ∧ tv = .int .u64 T ∧ nv = .int .u64 nx ∧ gv = .int .u64 ga ∧ pv = .int .u64 prev ∧ iv = .int .i64 i ∧ g = n - i ∧ i ≤ n ∧ Run I T tm i nx prev ∧ wr.rowIs w2.heap.size 22 n (fun j => .int .u64 (tm j)) ∧ Below w2.heap.size w2 wr)
        case atStart => exact ⟨0, 0, 0, 0, fun _ => 0, rfl, rfl, rfl, rfl, rfl, rfl, rfl, Nat.zero_le _, run_start I T _ (by omega) t0, (World.rowIs_made w2 (.int .u64 0) n 22), (Below.refl _ _).alloc (Nat.le_refl _) _⟩
        case round =>
          clear hmk
          obtain ⟨i, nx, ga, prev, tm, rfl, rfl, rfl, rfl, rfl, rfl, rfl, hi, hR, hrow, hbl⟩ := hrel
          by_cases hlt : i < n
          · obtain ⟨x, x1, x2, x3⟩ := word_at cap' hE hlt
            obtain ⟨g0, g1⟩ := HB.out i hlt
            obtain ⟨V, hV⟩ : ∃ V, f i = V := ⟨_, rfl⟩
            rw [hV] at x3 g0 g1
            clear hV
            have p0 := hR.p0
            have p1 := hR.p1
            have n0 := hR.n0
            have n1 := hR.n1
            obtain ⟨s1, s2, s3, s4, s5⟩ := time_facts i1 i3 p0 n1 g0 g1
            have hstep := run_step hR i1 i3 t0 g0 g1
            have hp57 : prev ≤ 72057594037927936 := by omega
            have hnx : nx ≤ 18446744073709551615 := by omega
            have htm : timeN T nx prev V = if prev + V < early T nx then early T nx else prev + V := rfl
            have hc1 := early7B I T nx ga wr t0 hnx
            obtain ⟨E, hEE⟩ : ∃ E, early T nx = E := ⟨_, rfl⟩
            obtain ⟨t, ht⟩ : ∃ t, timeN T nx prev V = t := ⟨_, rfl⟩
            rw [hEE] at s4 s5 htm hc1
            rw [ht] at s1 s2 s3 s5 hstep htm
            have s0 : 0 ≤ t := by omega
            obtain ⟨_, _, u3, u4, u5⟩ := next_facts (I := I) i1 t0 s0 s3
            obtain ⟨v1, v2⟩ := gath_le (I := I) i1 (by omega) HC.out.1 s3
            have hc2 := fun w => signed10 I T nx ga t w i1 t0 (by omega) s0 (by omega)
            obtain ⟨N, hN⟩ : ∃ N, nextN I nx t = N := ⟨_, rfl⟩
            obtain ⟨A, hA⟩ : ∃ A, gath I T nx t = A := ⟨_, rfl⟩
            rw [hN] at u3 u4 u5 hc2 hstep
            rw [hA] at v1 v2 hc2
            have hc3 := fun w => early7B I T N A w t0 (by omega)
            obtain ⟨E2, hE2⟩ : ∃ E2, early T N = E2 := ⟨_, rfl⟩
            rw [hE2] at u4 u5 hc3
            have HTM : Hid (t = if prev + V < E then E else prev + V) := htm
            have HST : Hid (Run I T (fun j => if j = i then t else tm j) (i + 1) N t) := hstep
            clear hEE ht hN hA hE2 htm hstep hR
            go_wp2_with fail
            refine hc1.mono ?_
            clear hc1
            rintro e w3 ⟨rfl, hb3⟩
            have cx := ((hbl.trans (hb3.mono hbl.size)).cell x1).trans x3
            go_upto_if 128 with fail
            go_cut [22] (fun v wd => v = .int .u64 t ∧ w3 = wd)
            case first =>
              by_cases hE1 : prev + V < E
              · have e : t = E := by rw [HTM.out, if_pos hE1]
                subst e
                clear HTM
                go_wp2
                go_meet
                exact ⟨rfl, rfl⟩
              · have e : t = prev + V := by rw [HTM.out, if_neg hE1]
                subst e
                clear HTM
                go_wp2
                go_meet
                exact ⟨rfl, rfl⟩
            case rest =>
              obtain ⟨rfl, rfl⟩ := hcut
              clear x1 x2 x3 cx HTM
              go_wp2_with fail
              refine (hc2 _).mono ?_
              clear hc2
              rintro e w4 ⟨rfl, hb4⟩
              have hb34 := hb3.trans (hb4.mono hb3.size)
              clear hb3 hb4
              go_wp2_with fail
              refine (hc3 _).mono ?_
              clear hc3
              rintro e w5 ⟨rfl, hb5⟩
              have hb35 := hb34.trans (hb5.mono hb34.size)
              have hbl5 := hbl.trans (hb35.mono hbl.size)
              have hrow5 : w5.rowIs w2.heap.size 22 n (fun j => .int .u64 (tm j)) := hrow.of_block (hb35.block _ hrow.lt)
              clear hb34 hb5 hb35 hbl hrow
              have k1 := hrow5.cell hlt
              have k2 := hrow5.frozen i
              go_wp2
              go_roundg (n - (i + 1))
              case measure => omega
              case rel =>
                refine ⟨i + 1, N, A, t, fun j => if j = i then t else tm j, rfl, rfl, rfl, rfl, rfl, by go_num, rfl, by omega, HST.out, (hrow5.set i _).congr ?_, below_set hbl5 (Nat.le_refl _) _⟩
                intro j _
                by_cases h1 : j = i
                · simp [h1]
                · simp [h1]
          · have hin : i = n := by omega
            subst hin
            have hb0r := hb02.trans (hbl.mono hb02.size)
            clear hE hb02 hbl hi HB hlt
            go_wp2
            go_loopg [32, 33] i (fun g lv iv wq => ∃ (k lo : Nat), lv = .int .i64 lo ∧ iv = .int .i64 k ∧ g = i - k ∧ k ≤ i ∧ lo ≤ k ∧ ∃ d, wq = wr.drewN d)
            case atStart => exact ⟨0, 0, rfl, rfl, rfl, Nat.zero_le _, Nat.le_refl _, 0, rfl⟩
            case round =>
              obtain ⟨k, lo, rfl, rfl, rfl, hki, hlo, d, rfl⟩ := hrel
              by_cases hlt : k < i
              · go_wp2
                go_loopg [32] (k - lo) (fun g lv wq => ∃ (lo : Nat), lv = .int .i64 lo ∧ g = k - lo ∧ lo ≤ k ∧ ∃ d, wq = wr.drewN d)
                case atStart => exact ⟨lo, rfl, rfl, hlo, d, rfl⟩
                case round =>
                  clear hlo
                  obtain ⟨lo2, rfl, rfl, hlo, d2, rfl⟩ := hrel
                  have c1 := hrow.cell hlt
                  have c2 := hrow.cell (i := lo2) (by omega)
                  have hmono := hR.mono lo2 k hlo hlt
                  have hz1 := hR.t0 k hlt
                  have hz2 := hR.t0 lo2 (by omega)
                  have hfew := fun h => few hR i1 HC.out.1 HC.out.2 hlo hlt h
                  have hself : lo2 = k → tm k = tm lo2 := fun h => by rw [h]
                  have hp1 := hR.p1
                  obtain ⟨a, ha⟩ : ∃ a, tm k = a := ⟨_, rfl⟩
                  obtain ⟨b, hb⟩ : ∃ b, tm lo2 = b := ⟨_, rfl⟩
                  rw [ha] at c1 hmono hz1 hfew hself
                  rw [hb] at c2 hmono hz2 hfew hself
                  have hwr : IntKind.u64.wrap (a - b) = a - b := IntWalk.u64_in _ ⟨by omega, by omega⟩
                  clear ha hb
                  by_cases hge : m ≤ a - b
                  · have hlk : lo2 < k := by
                      by_cases h : lo2 = k
                      · have := hself h; omega
                      · omega
                    clear hfew hself
                    go_wp2
                    go_quiet (fail)
                    go_wp2
                    go_roundg (k - (lo2 + 1))
                    case measure => omega
                    case rel => exact ⟨lo2 + 1, by go_num, rfl, by omega, _, rfl⟩
                  · have hle := hfew (by omega)
                    clear hfew hself
                    go_wp2
                    go_quiet (fail)
                    go_wp2
                    go_roundg (i - (k + 1))
                    case measure => omega
                    case rel => exact ⟨k + 1, lo2, rfl, by go_num, rfl, by omega, by omega, _, rfl⟩
              · go_wp2
                go_ret
                exact ⟨rfl, below_drewN hb0r _⟩

/-- THE LAW's WALK, for every input. -/
theorem law5 (m c : Int) (ad : Option Addr) (n cap : Nat) (f : Nat → Int) (w : World) (m0 : 0 ≤ m) (m1 : m ≤ 18446744073709551615) (c0 : 0 ≤ c) (c1 : c ≤ 18446744073709551615) (hn : n ≤ 9223372036854775807)
    (hE : Elems w ad n (fun i => .int .u64 (f i))) (hf0 : ∀ i, i < n → 0 ≤ f i) :
    Calls Try.prog 5 #[.int .u64 m, .int .u64 c, .slice ad n cap] w fun e w' => e = .returned (.bool true) ∧ Below w.heap.size w w' := by
  by_cases h : 65536 < n ∨ c < 2 ∨ m = 0 ∨ 1099511627776 < m
  · exact law5_early m c ad n cap w m0 m1 c0 c1 hn h
  · exact law5_main m c ad n cap f w (by omega) (by omega) (by omega) c1 (by omega) hE hf0

end Go.Proofs.Qxb6605364a
