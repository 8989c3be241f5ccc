/-
  WALK for 'FnReadGroupsExact': the model (11).
-/
import Derived.Test.Qxb6605336aExD
namespace Go.Proofs.Qxb6605336a
open Go.RowKit Go.Deep Go.ChangeAt Go.WideShapes Go.ChangeShapes
open Rg (hexOk hexD digB hexRun hexVal gb gbs pcs lead grp model)

theorem model_close {w' : World} {M : List Int × Bool} {PS : List (List Int)} {W gg mm cap : Nat} {tl : List Int} {b : Bool} {n : Int} (hM : M = (gbs (PS.take W) ++ tl, b)) (hW : W ≤ PS.length) (HQ : (gbs (PS.take W) ++ tl).length = mm) (hn : n = 2 * (W : Int) + (tl.length : Nat)) (hB : Buf w' gg cap (gbs (PS.take W) ++ tl)) :
    ModelIs (.returned (.tuple #[.int .i64 n, .bool b, .slice (some ⟨gg, 0, none⟩) mm cap])) w' M := by
  subst hM
  refine model_of HQ ?_ rfl hB
  rw [hn, ← HQ, List.length_append, gbs_length, List.length_take]
  omega

theorem quad_tail (w : World) (x0 x1 x2 x3 : Int) : Elems (w.alloc (.cells #[.int .u8 x0, .int .u8 x1, .int .u8 x2, .int .u8 x3] 52)) (some ⟨w.heap.size, 0, none⟩) [x0, x1, x2, x3].length (fun i => .int .u8 ([x0, x1, x2, x3].getD i 0)) := by
  refine ⟨(fun h => by cases h), fun x hx i hi => ?_⟩
  cases hx
  rw [add_plain, Nat.zero_add]
  have : i < 4 := hi
  match i, this with
  | 0, _ => exact cell_box w _ 52 0 _ rfl
  | 1, _ => exact cell_box w _ 52 1 _ rfl
  | 2, _ => exact cell_box w _ 52 2 _ rfl
  | 3, _ => exact cell_box w _ 52 3 _ rfl

set_option maxRecDepth 100000 in
set_option maxHeartbeats 4000000 in
theorem model11 (s : ByteArray) (room : Nat) (ip : Bool) (w : World) (hs : s.size ≤ 524288) (hr : room ≤ 524288) (h0 : s.size ≠ 0) :
    Calls Try.prog 11 #[.string s, .int .i64 room, .bool ip] w fun e w' => ModelIs e w' (model ip room (pcs (bs s))) ∧ Below w.heap.size w w' := by
  have q0 : s.toList.isEmpty = false := by rw [empty_iff]; exact decide_eq_false h0
  have hmk := make_bufI (s.size + 1) ((s.size : Int) + 1) (by omega) (by omega)
  clear h0
  obtain ⟨PS, hPS⟩ : ∃ PS, pcs (bs s) = PS := ⟨_, rfl⟩
  rw [hPS]
  obtain ⟨M, hM⟩ : ∃ M, model ip room PS = M := ⟨_, rfl⟩
  rw [hM]
  have HPS : Hid (pcs (bs s) = PS) := hPS
  have HMd : Hid (model ip room PS = M) := hM
  clear hPS hM
  go_enter Try.func11, Try.ntmps11
  go_wp2
  go_loopg [9, 10, 11, 12] s.size (fun g sv ev cv iv wr => ∃ (i c m : Nat) (st en : List Int), g = s.size - i ∧ iv = .int .i64 i ∧ cv = .int .i64 c ∧ sv = .slice (some ⟨w.heap.size, 0, none⟩) m (s.size + 1) ∧ ev = .slice (some ⟨w.heap.size + 1, 0, none⟩) m (s.size + 1) ∧ Hid (st.length = m ∧ en.length = m) ∧ m ≤ i ∧ i ≤ s.size ∧ c ≤ i ∧ Scan s i c st en ∧ TwoI w wr st en (s.size + 1))
  case atStart => exact ⟨0, 0, 0, [], [], rfl, rfl, rfl, rfl, rfl, ⟨rfl, rfl⟩, Nat.le_refl _, Nat.zero_le _, Nat.le_refl _, scan_start s, twoI_new w _ (by unfold maxLen; omega)⟩
  case round =>
    clear hmk
    obtain ⟨i, c, m, st, en, rfl, rfl, rfl, rfl, rfl, HL, hmi, hil, hci, hS, hT⟩ := hrel
    by_cases hlt : i < s.size
    · have i1 := run_idx s (i : Int) i rfl hlt
      by_cases hb : bt s i = 58
      · have q1 : (bt s i == 58) = true := by rw [beq_iff_eq]; exact hb
        have hS2 := scan_colon hS hlt hb
        clear hb hS
        go_wp2_with (first | (at_builtin; refine appI _ rfl (.tmp 40) (.tmp 42) rfl w.heap.size (s.size + 1) m _ HL.out.1 rfl (hT.bx.alloc _) wr.heap.size (c : Int) rfl (cell_box _ _ 3 0 _ rfl) (by omega) ?_; intro w1 hB1 hG1; have hT1 := (hT.alloc _).stepX hB1 hG1) | (at_builtin; refine appI _ rfl (.tmp 44) (.tmp 46) rfl (w.heap.size + 1) (s.size + 1) m _ HL.out.2 rfl (hT1.by_.alloc _) w1.heap.size (i : Int) rfl (cell_box _ _ 3 0 _ rfl) (by omega) ?_; intro w2 hB2 hG2; have hT2 := (hT1.alloc _).stepY hB2 hG2))
        go_roundg (s.size - (i + 1))
        case measure => omega
        case rel => exact ⟨i + 1, i + 1, m + 1, _, _, rfl, by go_num, by go_num, rfl, rfl, ⟨by rw [List.length_append, HL.out.1]; rfl, by rw [List.length_append, HL.out.2]; rfl⟩, by omega, by omega, by omega, hS2, hT2⟩
      · have q1 : (bt s i == 58) = false := by rw [beq_eq_false_iff_ne]; exact hb
        have hS2 := scan_plain hS hlt hb
        clear hb hS
        go_wp2
        go_roundg (s.size - (i + 1))
        case measure => omega
        case rel => exact ⟨i + 1, c, m, _, _, rfl, by go_num, rfl, rfl, rfl, HL, by omega, by omega, by omega, hS2, hT⟩
    · have hC := scan_end hS (by omega)
      clear hS
      rw [HPS.out] at hC
      go_upto_block 2 with (first | (at_builtin; refine appI _ rfl (.tmp 50) (.tmp 52) rfl w.heap.size (s.size + 1) m _ HL.out.1 rfl (hT.bx.alloc _) wr.heap.size (c : Int) rfl (cell_box _ _ 3 0 _ rfl) (by omega) ?_; intro w1 hB1 hG1; have hT1 := (hT.alloc _).stepX hB1 hG1) | (at_builtin; refine appI _ rfl (.tmp 54) (.tmp 57) rfl (w.heap.size + 1) (s.size + 1) m _ HL.out.2 rfl (hT1.by_.alloc _) w1.heap.size (s.size : Int) rfl (cell_box _ _ 3 0 _ rfl) (by omega) ?_; intro w2 hB2 hG2; have hT2 := (hT1.alloc _).stepY hB2 hG2))
      have HST : Hid ((st ++ [(c : Int)]).length = m + 1) := by rw [Hid, List.length_append, HL.out.1]; rfl
      have HEN : Hid ((en ++ [(s.size : Int)]).length = m + 1) := by rw [Hid, List.length_append, HL.out.2]; rfl
      obtain ⟨ST, hST⟩ : ∃ l, st ++ [(c : Int)] = l := ⟨_, rfl⟩
      obtain ⟨EN, hEN⟩ : ∃ l, en ++ [(s.size : Int)] = l := ⟨_, rfl⟩
      rw [hST] at hC hT2 HST
      rw [hEN] at hC hT2 HEN
      have hPm : PS.length = m + 1 := by have := hC.l1; have := HST.out; omega
      have HPM : Hid (PS.length = m + 1) := hPm
      have emo : ((room : Int) / 2) = ((room / 2 : Nat) : Int) := by omega
      rw [emo]
      obtain ⟨mo, hmo⟩ : ∃ mo, room / 2 = mo := ⟨_, rfl⟩
      rw [hmo]
      have HMO : Hid (room / 2 = mo) := hmo
      have hmo1 : 2 * mo ≤ room := by omega
      have hmo2 : room < 2 * mo + 2 := by omega
      have hsz1 : s.size ≤ 1048576 := by omega
      clear hmo emo hPm hST hEN hB1 hG1 hT1 hB2 hG2 hT HL
      go_cut [15] (fun gv wc => gv = .int .i64 (lead PS) ∧ ∃ n, wc = w2.drewN n)
      case first =>
        go_wp2
        go_loopg [15] (m + 1) (fun gg gv wq => ∃ g : Nat, gv = .int .i64 g ∧ gg = m + 1 - g ∧ g ≤ m + 1 ∧ Hid (∀ j, j < g → grp (PS.getD j []) = true) ∧ ∃ n, wq = w2.drewN n)
        case atStart => exact ⟨0, rfl, rfl, Nat.zero_le _, (fun j hj => absurd hj (Nat.not_lt_zero _)), 0, rfl⟩
        case round =>
          obtain ⟨g, rfl, rfl, hg, HG, n, rfl⟩ := hrel
          by_cases hlt : g ≤ m
          · have hgP : g < PS.length := by rw [HPM.out]; omega
            obtain ⟨a, b, ea, eb, hab, hbs, hpc⟩ := hC.each g hgP
            have c1 := hT2.bx.cell (i := g) (by rw [HST.out]; omega)
            have c2 := hT2.by_.cell (i := g) (by rw [HEN.out]; omega)
            rw [ea] at c1
            rw [eb] at c2
            have hsl := run_cut s a b hab hbs
            have hpsz : (s.extract a b).size ≤ 1048576 := by rw [ByteArray.size_extract]; omega
            obtain ⟨q, hq⟩ : ∃ q, s.extract a b = q := ⟨_, rfl⟩
            rw [hq] at hsl hpsz hpc
            have hgr := fun n => grp27 q (w2.drewN n) hpsz
            rw [hpc] at hgr
            have d1 : decide (g ≤ m) = true := decide_eq_true hlt
            obtain ⟨B, hB⟩ : ∃ B, grp (PS.getD g []) = B := ⟨_, rfl⟩
            rw [hB] at hgr
            have HB : Hid (grp (PS.getD g []) = B) := hB
            have HGR : Hid (∀ n, Calls Try.prog 27 #[.string q] (w2.drewN n) fun e w' => e = .returned (.bool B) ∧ w' = w2.drewN n) := hgr
            clear hq hpc hB ea eb hgr
            go_wp2
            go_quiet ((go_at_call 27; refine (HGR.out _).mono ?_; rintro e w'' ⟨rfl, rfl⟩; exact ⟨rfl, _, rfl⟩))
            cases B
            · go_wp2
              go_meet
              refine ⟨?_, _, World.drewN_drewN _ _ _⟩
              rw [lead_is PS g (by rw [HPM.out]; omega) HG.out (.inr HB.out)]
            · go_wp2
              go_roundg (m + 1 - (g + 1))
              case measure => omega
              case rel =>
                refine ⟨g + 1, by go_num, rfl, by omega, ?_, _, rfl⟩
                intro j hj
                by_cases e : j = g
                · rw [e]; exact HB.out
                · exact HG.out j (by omega)
          · have hgm : g = m + 1 := by omega
            have d1 : decide (g ≤ m) = false := decide_eq_false hlt
            have HL2 : Hid (lead PS = g) := lead_is PS g (by rw [HPM.out]; omega) HG.out (.inl (by rw [HPM.out]; exact hgm))
            clear hgm
            go_wp2
            go_quiet (fail)
            go_wp2
            go_meet
            refine ⟨?_, _, World.drewN_drewN _ _ _⟩
            rw [HL2.out]
      case rest =>
        obtain ⟨rfl, n, rfl⟩ := hcut
        have hT3 := hT2.drewN n
        have hLle := Rg.lead_le PS
        rw [HPM.out] at hLle
        obtain ⟨w3, hw3⟩ : ∃ w3, w2.drewN n = w3 := ⟨_, rfl⟩
        rw [hw3] at hT3 ⊢
        obtain ⟨G, hG⟩ : ∃ G, lead PS = G := ⟨_, rfl⟩
        rw [hG] at hLle ⊢
        have HLd : Hid (lead PS = G) := hG
        clear hT2 hw3 hG
        by_cases hGm : G = m + 1
        · subst hGm
          by_cases hfit : 2 * (m + 1) ≤ room
          · have hcall := bytesAny s w.heap.size (w.heap.size + 1) (s.size + 1) (s.size + 1) (m + 1) (m + 1) (m + 1) 0 ((m : Int) + 1) ST EN PS none 0 [] w3 HST.out HEN.out (by omega) rfl hsz1 hC hT3.bx hT3.by_ (by rw [HPM.out]; omega) (by omega) (Nat.zero_le _) (no_tail _)
            have HMv : Hid (M = (gbs (PS.take (m + 1)) ++ [], true)) := by rw [Hid, ← HMd.out, model_all_ok (by rw [HLd.out, HPM.out]) (by rw [HPM.out]; exact hfit), List.take_of_length_le (by rw [HPM.out]; exact Nat.le_refl _), List.append_nil]
            go_wp2_with (go_at_call 28; refine hcall.mono ?_; rintro e w' ⟨mm, cap, gg, rfl, HQ, hBq, hbq⟩)
            go_ret3
            exact ⟨model_close HMv.out (by rw [HPM.out]; omega) HQ.out (by simp only [List.length_nil]; omega) hBq, hT3.bl.trans (hbq.mono hT3.bl.size)⟩
          · have hcall := bytesAny s w.heap.size (w.heap.size + 1) (s.size + 1) (s.size + 1) mo (m + 1) (m + 1) 0 (mo : Int) ST EN PS none 0 [] w3 HST.out HEN.out rfl rfl hsz1 hC hT3.bx hT3.by_ (by rw [HPM.out]; omega) (by omega) (Nat.zero_le _) (no_tail _)
            have HMv : Hid (M = (gbs (PS.take mo) ++ [], false)) := by rw [Hid, ← HMd.out, model_all_no (by rw [HLd.out, HPM.out]) (by rw [HPM.out]; exact hfit), HMO.out, List.append_nil]
            go_wp2_with (go_at_call 28; refine hcall.mono ?_; rintro e w' ⟨mm, cap, gg, rfl, HQ, hBq, hbq⟩)
            go_ret3
            exact ⟨model_close HMv.out (by rw [HPM.out]; omega) HQ.out (by simp only [List.length_nil]; omega) hBq, hT3.bl.trans (hbq.mono hT3.bl.size)⟩
        · have hGm2 : G ≤ m := by omega
          have hGP : G < PS.length := by rw [HPM.out]; omega
          obtain ⟨a, b, ea, eb, hab, hbs, hpc⟩ := hC.each G hGP
          have c1 := hT3.bx.cell (i := G) (by rw [HST.out]; omega)
          have c2 := hT3.by_.cell (i := G) (by rw [HEN.out]; omega)
          rw [ea] at c1
          rw [eb] at c2
          have hsl := run_cut s a b hab hbs
          have hpsz : (s.extract a b).size ≤ 1048576 := by rw [ByteArray.size_extract]; omega
          obtain ⟨p, hp⟩ : ∃ p, s.extract a b = p := ⟨_, rfl⟩
          rw [hp] at hsl hpsz hpc
          have HPC : Hid (PS.getD G [] = bs p) := hpc.symm
          have HNL : Hid (¬ lead PS = PS.length) := by rw [Hid, HLd.out, HPM.out]; exact hGm
          clear hp hpc ea eb hGm hlt hLle
          go_upto_region 24 with fail
          go_cut [16] (fun v wc => v = .string p ∧ ∃ n, wc = w3.drewN n)
          case first =>
            go_quiet (fail)
            go_wp2
            go_meet
            exact ⟨rfl, _, rfl⟩
          case rest =>
            obtain ⟨rfl, n4, rfl⟩ := hcut
            have hT4 := hT3.drewN n4
            obtain ⟨w4, hw4⟩ : ∃ w4, w3.drewN n4 = w4 := ⟨_, rfl⟩
            rw [hw4] at hT4 ⊢
            clear hT3 hw4 c1 c2 hsl hab hbs
            obtain ⟨bb, hbb⟩ : ∃ bb, bb = decide (ip = true ∧ G = m ∧ 2 * m + 4 ≤ room) := ⟨_, rfl⟩
            go_upto_region 25 with fail
            go_cut [128] (fun v wc => v = .bool bb ∧ w4 = wc)
            case first =>
              cases ip
              · have e : bb = false := by rw [hbb]; simp
                subst e
                clear hbb
                go_wp2
                go_meet
                exact ⟨rfl, rfl⟩
              · by_cases hgm : G = m
                · by_cases hrm : 2 * m + 4 ≤ room
                  · have e : bb = true := by rw [hbb]; exact decide_eq_true ⟨rfl, hgm, hrm⟩
                    subst e
                    clear hbb
                    go_wp2
                    go_meet
                    exact ⟨congrArg Value.bool (decide_eq_true (by omega)), rfl⟩
                  · have e : bb = false := by rw [hbb]; exact decide_eq_false (fun h => hrm h.2.2)
                    subst e
                    clear hbb
                    go_wp2
                    go_meet
                    exact ⟨congrArg Value.bool (decide_eq_false (by omega)), rfl⟩
                · have e : bb = false := by rw [hbb]; exact decide_eq_false (fun h => hgm h.2.1)
                  subst e
                  clear hbb
                  go_wp2
                  go_meet
                  exact ⟨rfl, rfl⟩
            case rest =>
              obtain ⟨rfl, rfl⟩ := hcut
              go_upto_if 128 with fail
              go_cut [] (fun wc => TwoI w wc ST EN (s.size + 1) ∧ Hid (Rg.endQ ip room PS = none))
              case first =>
                cases bb
                · have HE : Hid (Rg.endQ ip room PS = none) := by
                    have h := of_decide_eq_false hbb.symm
                    rw [Hid, Rg.endQ, if_neg]
                    rw [HLd.out, HPM.out]
                    exact fun hh => h ⟨hh.1, by omega, by omega⟩
                  clear hbb
                  go_wp2
                  go_meet
                  exact ⟨hT4, HE⟩
                · obtain ⟨hip, hgm, hrm⟩ := of_decide_eq_true hbb.symm
                  subst hip hgm
                  clear hbb
                  have hq := quad29 p w4 hpsz
                  have HE : Hid (Rg.endQ true room PS = Rg.qs 4 (bs p)) := by
                    rw [Hid, Rg.endQ, if_pos (by rw [HLd.out, HPM.out]; exact ⟨rfl, rfl, hrm⟩), HLd.out, HPC.out]
                  go_upto_region 27 with (go_at_call 29; refine hq.mono ?_; rintro e w5 ⟨⟨x0, x1, x2, x3, ok, rfl, hqe⟩, hb5⟩)
                  have hT5 := (hT4.below hb5).alloc (.cells #[.int .u8 x0, .int .u8 x1, .int .u8 x2, .int .u8 x3] 52)
                  cases ok
                  · have HEN2 : Hid (Rg.endQ true room PS = none) := HE.out.trans hqe
                    clear hqe
                    go_wp2
                    go_meet
                    exact ⟨hT5, HEN2⟩
                  · have HMv : Hid (M = (gbs (PS.take G) ++ [x0, x1, x2, x3], true)) := by
                      have := model_quad (ip := true) (r := room) HNL.out (HE.out.trans hqe)
                      rw [Hid, ← HMd.out, this, HLd.out]
                    have hcall := bytesAny s w.heap.size (w.heap.size + 1) (s.size + 1) (s.size + 1) G (G + 1) (G + 1) 4 (G : Int) ST EN PS (some ⟨w5.heap.size, 0, none⟩) 4 [x0, x1, x2, x3] _ HST.out HEN.out rfl rfl hsz1 hC hT5.bx hT5.by_ (by rw [HPM.out]; omega) (by omega) (Nat.le_refl _) (quad_tail w5 x0 x1 x2 x3)
                    clear hqe
                    go_wp2_with (go_at_call 28; refine hcall.mono ?_; rintro e w' ⟨mm, cap, gg, rfl, HQ, hBq, hbq⟩)
                    go_ret3
                    exact ⟨model_close HMv.out (by rw [HPM.out]; omega) HQ.out (by simp) hBq, hT5.bl.trans (hbq.mono hT5.bl.size)⟩
              case rest =>
                obtain ⟨hT5, HEq⟩ := hcut
                clear hbb hT4
                have hrun := run30 p wc hpsz
                have hdot := dot31 p wc hpsz
                obtain ⟨tb, htb⟩ : ∃ tb, Rg.tryB ip (bs p) = tb := ⟨_, rfl⟩
                have HTB : Hid (Rg.tryB ip (bs p) = tb) := htb
                unfold Rg.tryB at htb
                obtain ⟨R, hR⟩ : ∃ R, hexRun (bs p) 4 = R := ⟨_, rfl⟩
                obtain ⟨D, hD⟩ : ∃ D, Rg.dotB (bs p) = D := ⟨_, rfl⟩
                rw [hR] at hrun htb
                rw [hD] at hdot htb
                have HMv : Hid (M = (gbs (PS.take (min (if tb = true then G + 1 else G) mo)) ++ [], false)) := by
                  rw [Hid, ← HMd.out, model_rest HNL.out HEq.out, Rg.wide, HLd.out, HPC.out, HTB.out, HMO.out, List.append_nil]
                have hRb : R ≤ 4 := by rw [← hR]; exact (Rg.hexRun_le _ 4).1
                clear hR hD
                go_upto_region 30 with fail
                go_cut [155] (fun v wd => v = .bool tb ∧ wc = wd)
                case first =>
                  by_cases hR0 : 0 < R
                  · cases ip
                    · have e : tb = true := by rw [← htb]; simp [hR0]
                      subst e
                      clear htb
                      go_wp2_with (go_at_call 30; refine hrun.mono ?_; rintro e w' ⟨rfl, rfl⟩)
                      go_meet
                      exact ⟨rfl, rfl⟩
                    · have e : tb = !D := by rw [← htb]; simp [hR0]
                      subst e
                      clear htb
                      go_wp2_with (first | (go_at_call 30; refine hrun.mono ?_; rintro e w' ⟨rfl, rfl⟩) | (go_at_call 31; refine hdot.mono ?_; rintro e w' ⟨rfl, rfl⟩))
                      go_meet
                      exact ⟨rfl, rfl⟩
                  · have e : tb = false := by rw [← htb]; simp [hR0]
                    subst e
                    clear htb
                    go_wp2_with (go_at_call 30; refine hrun.mono ?_; rintro e w' ⟨rfl, rfl⟩)
                    go_meet
                    exact ⟨rfl, rfl⟩
                case rest =>
                  obtain ⟨rfl, rfl⟩ := hcut
                  clear htb hrun hdot hRb
                  cases tb
                  · by_cases hw : mo < G
                    · have hcall := bytesAny s w.heap.size (w.heap.size + 1) (s.size + 1) (s.size + 1) mo (m + 1) (m + 1) 0 (mo : Int) ST EN PS none 0 [] wc HST.out HEN.out rfl rfl hsz1 hC hT5.bx hT5.by_ (by rw [HPM.out]; omega) (by omega) (Nat.zero_le _) (no_tail _)
                      have HMw : Hid (M = (gbs (PS.take mo) ++ [], false)) := by
                        have := HMv.out
                        rw [if_neg (by decide), Nat.min_eq_right (by omega)] at this
                        exact this
                      clear HMv
                      go_wp2_with (go_at_call 28; refine hcall.mono ?_; rintro e w' ⟨mm, cap, gg, rfl, HQ, hBq, hbq⟩)
                      go_ret3
                      exact ⟨model_close HMw.out (by rw [HPM.out]; omega) HQ.out (by simp only [List.length_nil]; omega) hBq, hT5.bl.trans (hbq.mono hT5.bl.size)⟩
                    · have hcall := bytesAny s w.heap.size (w.heap.size + 1) (s.size + 1) (s.size + 1) G (m + 1) (m + 1) 0 (G : Int) ST EN PS none 0 [] wc HST.out HEN.out rfl rfl hsz1 hC hT5.bx hT5.by_ (by rw [HPM.out]; omega) (by omega) (Nat.zero_le _) (no_tail _)
                      have HMw : Hid (M = (gbs (PS.take G) ++ [], false)) := by
                        have := HMv.out
                        rw [if_neg (by decide), Nat.min_eq_left (by omega)] at this
                        exact this
                      clear HMv
                      go_wp2_with (go_at_call 28; refine hcall.mono ?_; rintro e w' ⟨mm, cap, gg, rfl, HQ, hBq, hbq⟩)
                      go_ret3
                      exact ⟨model_close HMw.out (by rw [HPM.out]; omega) HQ.out (by simp only [List.length_nil]; omega) hBq, hT5.bl.trans (hbq.mono hT5.bl.size)⟩
                  · by_cases hw : mo < G + 1
                    · have hcall := bytesAny s w.heap.size (w.heap.size + 1) (s.size + 1) (s.size + 1) mo (m + 1) (m + 1) 0 (mo : Int) ST EN PS none 0 [] wc HST.out HEN.out rfl rfl hsz1 hC hT5.bx hT5.by_ (by rw [HPM.out]; omega) (by omega) (Nat.zero_le _) (no_tail _)
                      have HMw : Hid (M = (gbs (PS.take mo) ++ [], false)) := by
                        have := HMv.out
                        rw [if_pos rfl, Nat.min_eq_right (by omega)] at this
                        exact this
                      clear HMv
                      go_wp2_with (go_at_call 28; refine hcall.mono ?_; rintro e w' ⟨mm, cap, gg, rfl, HQ, hBq, hbq⟩)
                      go_ret3
                      exact ⟨model_close HMw.out (by rw [HPM.out]; omega) HQ.out (by simp only [List.length_nil]; omega) hBq, hT5.bl.trans (hbq.mono hT5.bl.size)⟩
                    · have hcall := bytesAny s w.heap.size (w.heap.size + 1) (s.size + 1) (s.size + 1) (G + 1) (m + 1) (m + 1) 0 ((G : Int) + 1) ST EN PS none 0 [] wc HST.out HEN.out (by omega) rfl hsz1 hC hT5.bx hT5.by_ (by rw [HPM.out]; omega) (by omega) (Nat.zero_le _) (no_tail _)
                      have HMw : Hid (M = (gbs (PS.take (G + 1)) ++ [], false)) := by
                        have := HMv.out
                        rw [if_pos rfl, Nat.min_eq_left (by omega)] at this
                        exact this
                      clear HMv
                      go_wp2_with (go_at_call 28; refine hcall.mono ?_; rintro e w' ⟨mm, cap, gg, rfl, HQ, hBq, hbq⟩)
                      go_ret3
                      exact ⟨model_close HMw.out (by rw [HPM.out]; omega) HQ.out (by simp only [List.length_nil]; omega) hBq, hT5.bl.trans (hbq.mono hT5.bl.size)⟩
end Go.Proofs.Qxb6605336a
