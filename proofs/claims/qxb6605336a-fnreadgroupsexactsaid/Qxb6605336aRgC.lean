/-
  WALK: readGroups (26).
-/
import Derived.Test.Qxb6605336aRgB
import Derived.Deep.CutBlock
import Derived.Laws.BitsAllLaws
import Derived.Laws.CopyOwn
import Derived.Deep.RegionLaw
namespace Go.Proofs.Qxb6605336a
open Go.RowKit Go.Deep Go.ChangeAt Go.WideShapes Go.ChangeShapes
open Rg (hexOk hexD digB)

/-- All blocks that were there are as they were, but for the one that ad leads to. -/
structure OnlyA (ad : Option Addr) (w w' : World) : Prop where
  os : w'.os = w.os
  tape : w'.tape = w.tape
  output : w'.output = w.output
  size : w.heap.size ≤ w'.heap.size
  block : ∀ k, k < w.heap.size → (∀ x, ad = some x → k ≠ x.block) → w'.heap[k]? = w.heap[k]?

theorem OnlyA.refl (ad : Option Addr) (w : World) : OnlyA ad w w := ⟨rfl, rfl, rfl, Nat.le_refl _, fun _ _ _ => rfl⟩
theorem OnlyA.trans {ad : Option Addr} {a b c : World} (h : OnlyA ad a b) (k : OnlyA ad b c) : OnlyA ad a c :=
  ⟨k.os.trans h.os, k.tape.trans h.tape, k.output.trans h.output, Nat.le_trans h.size k.size, fun i hi hn => (k.block i (Nat.lt_of_lt_of_le hi h.size) hn).trans (h.block i hi hn)⟩
theorem OnlyA.drew {ad : Option Addr} {a b : World} (h : OnlyA ad a b) : OnlyA ad a b.drew := ⟨h.os, h.tape, h.output, h.size, h.block⟩
theorem OnlyA.drewN {ad : Option Addr} {a b : World} (h : OnlyA ad a b) (n : Nat) : OnlyA ad a (b.drewN n) := ⟨h.os, h.tape, h.output, h.size, h.block⟩
theorem OnlyA.setCell {ad : Option Addr} {a b : World} (h : OnlyA ad a b) {p x : Addr} (hx : ad = some x) (hp : p.block = x.block) (u : Value) : OnlyA ad a (b.setCell p u) :=
  h.trans ⟨rfl, rfl, rfl, by simp [World.setCell], fun k _ hn => Below.heap_setCell _ _ _ _ (by have := hn x hx; omega)⟩
theorem OnlyA.below {ad : Option Addr} {a b c : World} (h : OnlyA ad a b) (k : Below b.heap.size b c) : OnlyA ad a c :=
  h.trans ⟨k.os, k.tape, k.output, k.size, fun i hi _ => k.block i hi⟩

/-- The buffer: its bytes. -/
def DstIs (w : World) (ad : Option Addr) (cont : List Int) : Prop :=
  cont.length = 0 ∨ ∃ D, ad = some ⟨D, 0, none⟩ ∧ w.rowIs D 5 cont.length (fun i => .int .u8 (cont.getD i 0))
/-- The first bytes written over. -/
def fillD (out orig : List Int) : List Int := out ++ orig.drop out.length
theorem fillD_length {out orig : List Int} (h : out.length ≤ orig.length) : (fillD out orig).length = orig.length := by
  unfold fillD; simp; omega

/-- Element n of the buffer: its address. -/
theorem dst_at {w : World} {ad : Option Addr} {cont : List Int} (len cap : Nat) (hl : cont.length = len) (h : DstIs w ad cont) {n : Nat} (hn : n < len) :
    ∃ D, ad = some ⟨D, 0, none⟩ ∧ w.rowIs D 5 len (fun i => .int .u8 (cont.getD i 0)) ∧ ∀ j, j < len → ∀ w', (Instr.indexAt 22 (.slice ad len cap) (.int .i64 (j : Int))).run Try.prog w' = .ok (.pointer (some ⟨D, j, none⟩)) w' := by
  subst hl
  rcases h with h | ⟨D, rfl, hr⟩
  · omega
  · refine ⟨D, rfl, hr, fun j hj w' => ?_⟩
    have hs : (sizeOf (Try.prog.elem 22)).run Try.prog w' = .ok 1 w' := by kernel_rfl
    rw [run_indexAt_slice w' 22 ⟨D, 0, none⟩ cont.length cap .i64 (j : Int) (by kernel_rfl), if_pos (by omega), hs]
    simp only [Result.andThen, Nat.mul_one, Int.toNat_natCast, add_plain, Nat.zero_add]

/-- Two bytes more. -/
theorem fill_two {out orig : List Int} {a b : Int} : ∀ i, i < orig.length → (if i = out.length + 1 then b else if i = out.length then a else (fillD out orig).getD i 0) = (fillD (out ++ [a, b]) orig).getD i 0 := by
  intro i hi
  unfold fillD
  by_cases h1 : i = out.length + 1
  · rw [if_pos h1, h1]
    simp [List.getD]
  · rw [if_neg h1]
    by_cases h2 : i = out.length
    · rw [if_pos h2, h2]
      simp [List.getD]
    · rw [if_neg h2]
      by_cases h3 : i < out.length
      · simp [List.getD, List.getElem?_append, h3]
      · simp only [List.getD, List.getElem?_append, h3, if_false, List.length_append, List.length_cons, List.length_nil, List.getElem?_drop]
        rw [if_neg (by omega), show out.length + (i - out.length) = i by omega, show out.length + (0 + 1 + 1) + (i - (out.length + (0 + 1 + 1))) = i by omega]

theorem dst_two {w : World} {ad : Option Addr} {D : Nat} {out orig : List Int} {a b : Int} (hA : ad = some ⟨D, 0, none⟩) (hr : w.rowIs D 5 orig.length (fun i => .int .u8 ((fillD out orig).getD i 0))) (h : out.length + 2 ≤ orig.length) :
    DstIs ((w.setCell ⟨D, out.length, none⟩ (.int .u8 a)).setCell ⟨D, out.length + 1, none⟩ (.int .u8 b)) ad (fillD (out ++ [a, b]) orig) := by
  have hl : (fillD (out ++ [a, b]) orig).length = orig.length := fillD_length (by simp; omega)
  refine .inr ⟨D, hA, ?_⟩
  rw [hl]
  refine ((hr.set out.length _).set (out.length + 1) _).congr ?_
  intro i hi
  have := fill_two (out := out) (a := a) (b := b) i hi
  rw [← this]
  by_cases h1 : i = out.length + 1
  · simp [h1]
  · by_cases h2 : i = out.length
    · simp [h2]
    · simp [h1, h2]

theorem DstIs.below {w w' : World} {ad : Option Addr} {cont : List Int} (h : DstIs w ad cont) (hb : Below w.heap.size w w') : DstIs w' ad cont := by
  rcases h with h | ⟨D, hA, hr⟩
  · exact .inl h
  · exact .inr ⟨D, hA, hr.of_block (hb.block D hr.lt)⟩

/-- 'copy(dst[n:], src)' as one step of a region: the world told exactly. -/
theorem step_copy_exact {P : Program} {ops : Array Oper} {o : Oper} {a : Act} {w : World} {K : Act → World → Prop} {Q : Exit → Act → World → Prop} {E : Prop} (hgd : o.guard = none) (d s : Operand) (dT sT : TypeId)
    (ho : o.op = .call { callee := .builtin .copy, args := #[d, s], argTypes := #[dT, sT] }) (elem : TypeId) (hu : P.underlying dT = some (.slice elem)) (hsz : (P.info? elem).map (·.size) = some 1)
    (g off dLen dCap : Nat) (ad : Addr) (sLen sCap : Nat) (hd : a.eval d = .slice (some ⟨g, off, none⟩) dLen dCap) (hs : a.eval s = .slice (some ad) sLen sCap)
    (cur : Array Value) (t : TypeId) (hg : w.heap[g]? = some (.cells cur t (0, 0))) (cs : List Value) (hn : cs.length = Nat.min sLen dLen)
    (hsrc : ∀ j v, cs[j]? = some v → w.cell? (ad.add j) = some v) (hfit : off + cs.length ≤ cur.size) (h1 : ∀ v ∈ cs, v.oneCell' = true)
    (h : K (a.put o.dst (goInt cs.length)) (w.setRow g (splice cur.toList off cs).toArray)) :
    if Region.wanted o (yielded ops a.tmps) = true then Oper.wp P o a w K Q else E := by
  have hw : Region.wanted o (yielded ops a.tmps) = true := by simp [Region.wanted, hgd]
  rw [if_pos hw]
  have hrun := run_copy_row (P := P) w dT sT o.type elem g off dLen dCap ad sLen sCap cur t cs hu hsz hg hn hsrc hfit h1
  unfold Oper.wp
  simp [execOp, ho, resolve, invoke, builtin, hd, hs, hrun, Result.andThen]
  exact h

/-- dst[n:], n inside. -/
theorem dst_from {ad : Option Addr} {D len cap n : Nat} (hA : ad = some ⟨D, 0, none⟩) (h1 : n < len) (h2 : len ≤ cap) (w' : World) :
    (Instr.sliceAt 22 (.slice ad len cap) (some (.int .i64 (n : Int))) none none).run Try.prog w' = .ok (.slice (some ⟨D, n, none⟩) (len - n) (cap - n)) w' := by
  subst hA
  have hs : (sizeOf (Try.prog.elem 22)).run Try.prog w' = .ok 1 w' := by kernel_rfl
  rw [run_sliceAt_slice w' 22 _ _ _ _ (by kernel_rfl), run_slice_l w' 22 (some ⟨D, 0, none⟩) len cap (by kernel_rfl) .i64 (n : Int) (by omega) (by omega), hs]
  simp only [Result.andThen, sliced, Int.toNat_natCast, Nat.mul_one, Option.map_some, add_plain, Nat.zero_add]
  rw [if_neg (by omega)]

theorem cell_box (w : World) (c : Array Value) (t : TypeId) (i : Nat) (v : Value) (h : c[i]? = some v) : (w.alloc (.cells c t)).cell? ⟨w.heap.size, i, none⟩ = some v := by
  have hi : i < c.size := by
    by_cases hi : i < c.size
    · exact hi
    · rw [Array.getElem?_eq_none (by omega)] at h; cases h
  have hr := (World.rowIs_alloc w c t (fun j => if j = i then v else c[j]?.getD v) (fun j hj => ?_)).cell hi
  · simpa using hr
  · show c[j]? = some (if j = i then v else c[j]?.getD v)
    by_cases e : j = i
    · rw [if_pos e, e]; exact h
    · rw [if_neg e]; simp [hj]

theorem onlyA_row {ad : Option Addr} {D : Nat} {a b : World} (h : OnlyA ad a b) (hA : ad = some ⟨D, 0, none⟩) (cs : Array Value) : OnlyA ad a ((b.drew).setRow D cs) :=
  h.trans ⟨rfl, rfl, rfl, by simp [World.setRow], fun k _ hn => setRow_other b.drew D k cs (by have := hn _ hA; simpa using this)⟩

theorem fill_four {out orig : List Int} {c : List Value} {x0 x1 x2 x3 : Int} (hc : c.length = orig.length) (hcc : ∀ i, i < orig.length → c[i]? = some (.int .u8 ((fillD out orig).getD i 0))) (h : out.length + 4 ≤ orig.length) :
    ∀ i, i < orig.length → (splice c out.length [.int .u8 x0, .int .u8 x1, .int .u8 x2, .int .u8 x3])[i]? = some (.int .u8 ((fillD (out ++ [x0, x1, x2, x3]) orig).getD i 0)) := by
  intro i hi
  have hl : (c.take out.length).length = out.length := by simp; omega
  unfold splice
  by_cases h1 : i < out.length
  · rw [List.getElem?_append_left (by omega), List.getElem?_take, if_pos h1, hcc i hi]
    unfold fillD
    simp [List.getD, List.getElem?_append, h1]
  · rw [List.getElem?_append_right (by omega), hl]
    by_cases h2 : i - out.length < 4
    · rw [List.getElem?_append_left (by simpa using h2)]
      unfold fillD
      have h3 : i - out.length = 0 ∨ i - out.length = 1 ∨ i - out.length = 2 ∨ i - out.length = 3 := by omega
      have h5 : ¬ i < out.length := h1
      rcases h3 with e | e | e | e <;> simp [List.getD, List.getElem?_append, h5, e]
    · rw [List.getElem?_append_right (by simp; omega)]
      simp only [List.length_cons, List.length_nil, List.getElem?_drop]
      rw [show out.length + (0 + 1 + 1 + 1 + 1) + (i - out.length - (0 + 1 + 1 + 1 + 1)) = i by omega, hcc i hi]
      unfold fillD
      have h4 : ¬ i < out.length + 4 := by omega
      simp only [List.getD, List.getElem?_append, h1, if_false, List.length_append, List.length_cons, List.length_nil, List.getElem?_drop, Nat.zero_add, h4]
      rw [show out.length + (i - out.length) = i by omega, show out.length + 4 + (i - (out.length + 4)) = i by omega]

theorem dst_four {ad : Option Addr} {D : Nat} {w : World} {c : Array Value} {out orig : List Int} (hA : ad = some ⟨D, 0, none⟩) (hg : w.heap[D]? = some (.cells c 5 (0, 0))) (hc : c.size = orig.length) (hcc : ∀ i, i < orig.length → c[i]? = some (.int .u8 ((fillD out orig).getD i 0)))
    (h : out.length + 4 ≤ orig.length) (x0 x1 x2 x3 : Int) : DstIs ((w.drew).setRow D (splice c.toList out.length [.int .u8 x0, .int .u8 x1, .int .u8 x2, .int .u8 x3]).toArray) ad (fillD (out ++ [x0, x1, x2, x3]) orig) := by
  have hl : (fillD (out ++ [x0, x1, x2, x3]) orig).length = orig.length := fillD_length (by simp; omega)
  have hc2 : c.toList.length = orig.length := by simpa using hc
  refine .inr ⟨D, hA, ⟨_, setRow_heap w.drew D _ _ 5 _ hg, ?_, ?_⟩⟩
  · rw [hl, List.size_toArray, length_splice _ _ _ (by simp; omega), hc2]
  · intro i hi
    rw [hl] at hi
    have := fill_four (x0 := x0) (x1 := x1) (x2 := x2) (x3 := x3) hc2 (fun i hi => by simpa using hcc i hi) h i hi
    simpa using this

theorem or_hex (v d : Int) (h0 : 0 ≤ v) (h1 : v ≤ 4095) (d0 : 0 ≤ d) (d1 : d ≤ 15) : bits .or .u16 (v * 16) d = v * 16 + d := by
  rw [u16_or (v * 16) d (by omega) (by omega) d0 (by omega)]
  obtain ⟨a, rfl⟩ := Int.eq_ofNat_of_zero_le h0
  obtain ⟨b, rfl⟩ := Int.eq_ofNat_of_zero_le d0
  have e1 : ((a : Int) * 16).toNat = a <<< 4 := by rw [Nat.shiftLeft_eq]; omega
  rw [e1, Int.toNat_natCast, ← Nat.shiftLeft_add_eq_or_of_lt (by omega : b < 2 ^ 4), Nat.shiftLeft_eq]
  omega

set_option maxRecDepth 100000 in
set_option maxHeartbeats 1000000 in
theorem read26 (s : ByteArray) (ad : Option Addr) (cap : Nat) (orig : List Int) (ip : Bool) (w : World) (hs : s.size ≤ 1048576) (ho : orig.length ≤ 1048576) (hlc : orig.length ≤ cap) (hD : DstIs w ad orig) :
    Calls Try.prog 26 #[.string s, .slice ad orig.length cap, .bool ip] w fun e w' =>
      e = .returned (.tuple #[.int .i64 (Rg.rgs orig.length ip (bs s)).1.length, .bool (Rg.rgs orig.length ip (bs s)).2]) ∧ DstIs w' ad (fillD (Rg.rgs orig.length ip (bs s)).1 orig) ∧ OnlyA ad w w' := by
  obtain ⟨R, hR⟩ : ∃ R, Rg.rgs orig.length ip (bs s) = R := ⟨_, rfl⟩
  rw [hR]
  by_cases h0 : s.size = 0
  · have q0 : s.toList.isEmpty = true := by rw [empty_iff]; exact decide_eq_true h0
    have hRe : R = ([], true) := by rw [← hR]; unfold Rg.rgs; rw [if_pos ((bs_empty s).2 h0)]
    subst hRe
    clear hR h0
    go_enter Try.func26, Try.ntmps26
    go_wp2
    go_ret2
    exact ⟨rfl, hD, OnlyA.refl _ _⟩
  · have q0 : s.toList.isEmpty = false := by rw [empty_iff]; exact decide_eq_false h0
    have HG : Hid (Rg.rg orig.length ip (s.size + 1) (bs s) [] = R) := by
      rw [← hR]; unfold Rg.rgs; rw [if_neg (fun e => h0 ((bs_empty s).1 e)), bs_length]; rfl
    clear hR h0
    go_enter Try.func26, Try.ntmps26
    go_wp2
    go_loopg [0, 8] (s.size + 1) (fun f sv nv wr => ∃ (r : ByteArray) (out : List Int), sv = .string r ∧ nv = .int .i64 out.length ∧ r.size ≤ 1048576 ∧ r.size < f ∧ out.length ≤ orig.length ∧
      Hid (Rg.rg orig.length ip f (bs r) out = R) ∧ DstIs wr ad (fillD out orig) ∧ OnlyA ad w wr)
    case atStart => exact ⟨s, [], rfl, rfl, hs, Nat.lt_succ_self _, Nat.zero_le _, HG, hD, OnlyA.refl _ _⟩
    case round =>
      clear HG q0
      obtain ⟨r, out, rfl, rfl, hr, hf, hout, HG, hDst, hO⟩ := hrel
      go_upto_block 2 with fail
      go_cut [9, 10] (fun vv iv wc => vv = .int .u16 (Rg.hexVal (bs r) (Rg.hexRun (bs r) 4)) ∧ iv = .int .i64 (Rg.hexRun (bs r) 4) ∧ wr = wc)
      case first =>
        go_wp2
        go_loopg [9, 10] 4 (fun g vv iv wq => ∃ k : Nat, k ≤ 4 ∧ k ≤ r.size ∧ g = 4 - k ∧ vv = .int .u16 (Rg.hexVal (bs r) k) ∧ iv = .int .i64 k ∧ Hid (∀ j, j < k → hexOk ((bs r).getD j 0) = true) ∧ wr = wq)
        case atStart => exact ⟨0, by omega, by omega, rfl, rfl, rfl, fun j hj => absurd hj (Nat.not_lt_zero _), rfl⟩
        case round =>
          obtain ⟨k, hk4, hks, rfl, rfl, rfl, HA, rfl⟩ := hrel
          have hrange := bt_range r k
          by_cases hlt : k < 4 ∧ k < r.size
          · obtain ⟨h4, h5⟩ := hlt
            have i1 := run_idx r (k : Int) k rfl h5
            have hx := hex36 (bt r k) wr hrange
            cases hok : hexOk (bt r k)
            · rw [hok] at hx
              have hrun : Rg.hexRun (bs r) 4 = k := Rg.hexRun_is (bs r) 4 k hk4 (by rw [bs_length]; omega) HA.out (.inr (.inr (by rw [bs_getD]; exact hok)))
              have HR2 : Hid (Rg.hexRun (bs r) 4 = k) := hrun
              clear hrun hok
              go_wp2_with (go_at_call 36; refine hx.mono ?_; rintro e w' ⟨rfl, rfl⟩)
              all_goals
                go_meet
                rw [HR2.out]
                exact ⟨rfl, rfl, rfl⟩
            · rw [hok] at hx
              have hv := Rg.hexVal_small3 (bs r) k (by omega)
              have hd := Rg.hexD_range (bt r k)
              have hor := or_hex _ _ hv.1 hv.2 hd.1 hd.2
              have HV : Hid (bits .or .u16 (Rg.hexVal (bs r) k * 16) (hexD (bt r k)) = Rg.hexVal (bs r) (k + 1)) := by
                rw [Hid, hor, Rg.hexVal, bs_getD]
              have HA2 : Hid (∀ j, j < k + 1 → hexOk ((bs r).getD j 0) = true) := by
                intro j hj
                by_cases e : j = k
                · rw [e, bs_getD]; exact hok
                · exact HA.out j (by omega)
              clear hor hok
              obtain ⟨hv1, hv2⟩ := hv
              obtain ⟨hd1, hd2⟩ := hd
              go_wp2_with (go_at_call 36; refine hx.mono ?_; rintro e w' ⟨rfl, rfl⟩)
              all_goals
                go_roundg (4 - (k + 1))
                case measure => omega
                case rel => exact ⟨k + 1, by omega, by omega, rfl, congrArg (Value.int .u16) HV.out, by go_num, HA2, rfl⟩
          · have hrun : Rg.hexRun (bs r) 4 = k := Rg.hexRun_is (bs r) 4 k hk4 (by rw [bs_length]; omega) HA.out (by rw [bs_length]; omega)
            have HR2 : Hid (Rg.hexRun (bs r) 4 = k) := hrun
            clear hrun
            by_cases h4 : k < 4
            · have h5 : k = r.size := by omega
              have HK : Hid (k = r.size) := h5
              have h6 : r.size ≤ k := by omega
              clear hlt h5
              go_wp2
              all_goals
                go_meet
                rw [HR2.out]
                exact ⟨rfl, rfl, rfl⟩
            · have h6 : 4 ≤ k := by omega
              clear hlt
              go_wp2
              all_goals
                go_meet
                rw [HR2.out]
                exact ⟨rfl, rfl, rfl⟩
      case rest =>
        obtain ⟨rfl, rfl, rfl⟩ := hcut
        obtain ⟨I, hI⟩ : ∃ I, Rg.hexRun (bs r) 4 = I := ⟨_, rfl⟩
        rw [hI]
        obtain ⟨V, hV⟩ : ∃ V, Rg.hexVal (bs r) I = V := ⟨_, rfl⟩
        rw [hV]
        have hIle := Rg.hexRun_le (bs r) 4
        rw [hI, bs_length] at hIle
        obtain ⟨hI4, hIs⟩ := hIle
        have hVr := Rg.hexVal_small (bs r) I hI4
        rw [hV] at hVr
        obtain ⟨hV0, hV1⟩ := hVr
        have HI : Hid (Rg.hexRun (bs r) 4 = I) := hI
        have HV : Hid (Rg.hexVal (bs r) I = V) := hV
        clear hI hV
        obtain ⟨f, rfl⟩ : ∃ f, gk = f + 1 := ⟨gk - 1, by omega⟩
        by_cases hdot : ip = true ∧ I < r.size ∧ bt r I = 46
        · obtain ⟨hip, h1, h2⟩ := hdot
          subst hip
          have i1 := run_idx r (I : Int) I rfl h1
          have q1 : (bt r I == 46) = true := by rw [beq_iff_eq]; exact h2
          have HDT : Hid (I < (bs r).length ∧ (bs r).getD I 0 = 46) := by rw [Hid, bs_length, bs_getD]; exact ⟨h1, h2⟩
          clear h2
          go_upto_region 12 with fail
          go_wp2_with fail
          refine (quad37 r wr hr).mono ?_
          rintro e w1 ⟨⟨x0, x1, x2, x3, ok, rfl, hq⟩, hb1⟩
          have hDst1 := hDst.below hb1
          have hO1 := hO.below hb1
          have HQ : Hid (Rg.qs 4 (bs r) = if ok = true then some [x0, x1, x2, x3] else none) := hq
          clear hq hb1 hDst hO
          cases ok
          · have hRe : R = (out, false) := by rw [← HG.out]; exact Rg.rg_dot_no HI.out rfl HDT.out.1 HDT.out.2 (.inl HQ.out)
            subst hRe
            have hbA : Below w1.heap.size w1 (w1.alloc (.cells #[.int .u8 x0, .int .u8 x1, .int .u8 x2, .int .u8 x3] 52)) := (Below.refl _ _).alloc (Nat.le_refl _) _
            go_wp2
            go_ret2
            exact ⟨rfl, hDst1.below hbA, hO1.below hbA⟩
          · by_cases h4 : out.length + 4 ≤ orig.length
            · have hRe : R = (out ++ [x0, x1, x2, x3], true) := by rw [← HG.out]; exact Rg.rg_dot_ok HI.out rfl HDT.out.1 HDT.out.2 HQ.out h4
              have HRe : Hid (R = (out ++ [x0, x1, x2, x3], true)) := hRe
              clear hRe
              have hfl := fillD_length (out := out) (orig := orig) hout
              have hbA : Below w1.heap.size w1 (w1.alloc (.cells #[.int .u8 x0, .int .u8 x1, .int .u8 x2, .int .u8 x3] 52)) := (Below.refl _ _).alloc (Nat.le_refl _) _
              have hDst2 := hDst1.below hbA
              obtain ⟨D, hadD, hrow, _⟩ := dst_at orig.length cap hfl hDst2 (n := out.length) (by omega)
              have HAD : Hid (ad = some ⟨D, 0, none⟩) := hadD
              have hfrom := fun w' => dst_from (cap := cap) hadD (show out.length < orig.length by omega) hlc w'
              obtain ⟨c, hg, hcs, hcc⟩ := hrow
              have HCC : Hid (∀ i, i < orig.length → c[i]? = some (.int .u8 ((fillD out orig).getD i 0))) := hcc
              have hO2 := hO1.below hbA
              have HGc : Hid ((w1.alloc (.cells #[.int .u8 x0, .int .u8 x1, .int .u8 x2, .int .u8 x3] 52)).heap[D]? = some (.cells c 5 (0, 0))) := hg
              have HN4 : Hid (([.int .u8 x0, .int .u8 x1, .int .u8 x2, .int .u8 x3] : List Value).length = Nat.min 4 (orig.length - out.length)) := by
                show 4 = min 4 (orig.length - out.length); omega
              have HSR : Hid (∀ j v, ([.int .u8 x0, .int .u8 x1, .int .u8 x2, .int .u8 x3] : List Value)[j]? = some v → ((w1.alloc (.cells #[.int .u8 x0, .int .u8 x1, .int .u8 x2, .int .u8 x3] 52)).drew).cell? ((⟨w1.heap.size, 0, none⟩ : Addr).add j) = some v) := by
                intro j v hv
                rw [add_plain, Nat.zero_add]
                exact cell_box w1 #[.int .u8 x0, .int .u8 x1, .int .u8 x2, .int .u8 x3] 52 j v (by simpa using hv)
              have HFT : Hid (out.length + ([.int .u8 x0, .int .u8 x1, .int .u8 x2, .int .u8 x3] : List Value).length ≤ c.size) := by
                show out.length + 4 ≤ c.size; omega
              have HOC : Hid (∀ v ∈ ([.int .u8 x0, .int .u8 x1, .int .u8 x2, .int .u8 x3] : List Value), v.oneCell' = true) := by
                intro v hv
                simp at hv
                rcases hv with rfl | rfl | rfl | rfl <;> rfl
              have hw4 : IntKind.i64.wrap ((out.length : Int) + 4) = (out.length : Int) + 4 := IntWalk.i64_in _ (by omega)
              have HL4 : Hid ((out ++ [x0, x1, x2, x3]).length = out.length + 4) := by simp [Hid]
              clear hadD hcc hDst2 hDst1 hO1 hbA hg
              go_wp2
              go_region_law (refine step_copy_exact rfl (.tmp 68) (.tmp 69) 22 22 rfl 5 Try.underlying22 (by kernel_rfl) D out.length (orig.length - out.length) (cap - out.length) ⟨w1.heap.size, 0, none⟩ 4 4 (by simp [Act.eval, Act.put]) (by simp [Act.eval, Act.put]) c 5 (by exact HGc.out) [.int .u8 x0, .int .u8 x1, .int .u8 x2, .int .u8 x3] HN4.out HSR.out HFT.out HOC.out ?_)
              go_wp2
              go_ret2
              rw [HRe.out]
              exact ⟨by rw [HL4.out]; rfl, dst_four HAD.out HGc.out hcs HCC.out h4 x0 x1 x2 x3, onlyA_row hO2 HAD.out _⟩
            · have hRe : R = (out, false) := by rw [← HG.out]; exact Rg.rg_dot_no HI.out rfl HDT.out.1 HDT.out.2 (.inr (by omega))
              subst hRe
              have hbA : Below w1.heap.size w1 (w1.alloc (.cells #[.int .u8 x0, .int .u8 x1, .int .u8 x2, .int .u8 x3] 52)) := (Below.refl _ _).alloc (Nat.le_refl _) _
              go_wp2
              go_ret2
              exact ⟨rfl, hDst1.below hbA, hO1.below hbA⟩
        · have HND : Hid (¬ (ip = true ∧ I < (bs r).length ∧ (bs r).getD I 0 = 46)) := by rw [bs_length, bs_getD]; exact hdot
          go_upto_region 11 with fail
          go_cut [49] (fun v wc => v = .bool false ∧ wr = wc)
          case first =>
            cases ip
            · go_wp2
              go_meet
              exact ⟨rfl, rfl⟩
            · by_cases h1 : I < r.size
              · have i1 := run_idx r (I : Int) I rfl h1
                have q1 : (bt r I == 46) = false := by rw [beq_eq_false_iff_ne]; exact fun e => hdot ⟨rfl, h1, e⟩
                clear hdot
                go_wp2
                go_meet
                exact ⟨rfl, rfl⟩
              · clear hdot
                go_wp2
                go_meet
                exact ⟨rfl, rfl⟩
          case rest =>
            clear hdot
            obtain ⟨rfl, rfl⟩ := hcut
            by_cases h2 : I = 0 ∨ orig.length < out.length + 2
            · have hRe : R = (out, false) := by rw [← HG.out]; exact Rg.rg_none HI.out HND.out h2
              subst hRe
              by_cases h3 : I = 0
              · have q3 : ((I : Int) == 0) = true := by rw [beq_iff_eq]; omega
                clear h2 h3
                go_wp2
                go_ret2
                exact ⟨rfl, hDst, hO⟩
              · have q3 : ((I : Int) == 0) = false := by rw [beq_eq_false_iff_ne]; omega
                have h4 : orig.length < out.length + 2 := by omega
                clear h2 h3
                go_wp2
                go_ret2
                exact ⟨rfl, hDst, hO⟩
            · have q3 : ((I : Int) == 0) = false := by rw [beq_eq_false_iff_ne]; omega
              have h4 : out.length + 2 ≤ orig.length := by omega
              have hfl := fillD_length (out := out) (orig := orig) hout
              obtain ⟨D, hadD, hrow, hidx⟩ := dst_at orig.length cap hfl hDst (n := out.length) (by omega)
              have HAD : Hid (ad = some ⟨D, 0, none⟩) := hadD
              have j1 := hidx out.length (by omega)
              have j2 := hidx (out.length + 1) (by omega)
              have e2 : ((out.length + 1 : Nat) : Int) = (out.length : Int) + 1 := by omega
              rw [e2] at j2
              have k1 := hrow.cell (i := out.length) (by omega)
              have k2 := hrow.cell (i := out.length + 1) (by omega)
              have f1 := hrow.frozen out.length
              have f2 := hrow.frozen (out.length + 1)
              clear hidx hadD e2
              have hDst2 : DstIs ((wr.setCell ⟨D, out.length, none⟩ (.int .u8 (V / 256))).setCell ⟨D, out.length + 1, none⟩ (.int .u8 (V % 256))) ad (fillD (out ++ [V / 256, V % 256]) orig) := dst_two HAD.out hrow h4
              have hO2 : OnlyA ad w ((wr.setCell ⟨D, out.length, none⟩ (.int .u8 (V / 256))).setCell ⟨D, out.length + 1, none⟩ (.int .u8 (V % 256))) := (hO.setCell (p := ⟨D, out.length, none⟩) HAD.out rfl _).setCell (p := ⟨D, out.length + 1, none⟩) HAD.out rfl _
              have hl2 : (out ++ [V / 256, V % 256]).length = out.length + 2 := by simp
              have HL2 : Hid ((out ++ [V / 256, V % 256]).length = out.length + 2) := hl2
              clear hl2
              by_cases h5 : I = r.size
              · have hRe : R = (out ++ [V / 256, V % 256], true) := by rw [← HG.out]; exact Rg.rg_end HI.out HV.out HND.out h2 (by rw [bs_length]; exact h5)
                have q5 : ((I : Int) == (r.size : Int)) = true := by rw [beq_iff_eq]; omega
                have HRe : Hid (R = (out ++ [V / 256, V % 256], true)) := hRe
                clear hRe h5 h2
                go_wp2
                go_ret2
                rw [HRe.out]
                exact ⟨by rw [HL2.out]; rfl, hDst2, hO2⟩
              · have q5 : ((I : Int) == (r.size : Int)) = false := by rw [beq_eq_false_iff_ne]; omega
                have h6 : I < r.size := by omega
                have i1 := run_idx r (I : Int) I rfl h6
                by_cases h7 : bt r I = 58
                · have q6 : (bt r I != 58) = false := by rw [bne_eq_false_iff_eq]; exact h7
                  have HG2 : Hid (Rg.rg orig.length ip f (bs (r.extract (I + 1) r.size)) (out ++ [V / 256, V % 256]) = R) := by
                    rw [Hid, bs_extract, ← HG.out]; exact (Rg.rg_colon HI.out HV.out HND.out h2 (by rw [bs_length]; exact h5) (by rw [bs_getD]; exact h7)).symm
                  have hsz2 : (r.extract (I + 1) r.size).size + 1 ≤ r.size := by rw [← bs_length, bs_extract, List.length_drop, bs_length]; omega
                  clear h7 h5 h2
                  go_wp2
                  go_roundg f
                  case measure => exact Nat.lt_succ_self _
                  case rel => exact ⟨_, _, rfl, by rw [HL2.out]; rfl, by omega, by omega, by rw [HL2.out]; omega, HG2, hDst2, hO2⟩
                · have q6 : (bt r I != 58) = true := by rw [bne_iff_ne]; exact h7
                  have hRe : R = (out ++ [V / 256, V % 256], false) := by rw [← HG.out]; exact Rg.rg_bad HI.out HV.out HND.out h2 (by rw [bs_length]; exact h5) (by rw [bs_getD]; exact h7)
                  have HRe : Hid (R = (out ++ [V / 256, V % 256], false)) := hRe
                  clear hRe h5 h2 h7
                  go_wp2
                  go_ret2
                  rw [HRe.out]
                  exact ⟨by rw [HL2.out]; rfl, hDst2, hO2⟩
end Go.Proofs.Qxb6605336a
