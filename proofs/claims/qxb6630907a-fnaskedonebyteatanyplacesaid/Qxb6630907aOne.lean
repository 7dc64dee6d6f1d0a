/-
  DERIVED. THE WALK of FnAskedOneByteAtAnyPlace (4). By an AI agent.
-/
import Derived.Test.Qxb6630907aParts
import Derived.Deep.CutRange
namespace Go.Proofs.Qxb6630907a
open Go.RowKit

/-! ### Cuts of a slice -/
theorem Try.slice22 : Try.prog.underlying 22 = some (.slice (Try.prog.elem 22)) := by kernel_rfl
theorem Try.sizeOf22 (w : World) : (sizeOf (Try.prog.elem 22)).run Try.prog w = .ok 1 w := by
  have e : Try.prog.elem 22 = 5 := by kernel_rfl
  obtain ⟨i, hi, _, h1, _⟩ := info_parts Try.info5
  rw [e]
  simp [sizeOf, typeInfo, hi, h1]

theorem row_take {w : World} {a : Option Addr} {l : List UInt8} (h : RowB w a l) (p : Nat) : RowB w a (l.take p) := by
  rcases h with rfl | ⟨b, off, rfl, hc⟩
  · exact .inl (by simp)
  · refine .inr ⟨b, off, rfl, fun j hj => ?_⟩
    have hj' : j < l.length := by simp at hj; omega
    rw [hc j hj']
    simp

/-- 's[:p]'. -/
theorem run_upto (w : World) (a : Option Addr) (len cap p : Nat) (hp : p ≤ cap) :
    (Instr.slice 22 (.slice a len cap) none (some (.int .i64 (p : Int))) none).run Try.prog w = .ok (.slice a p cap) w := by
  rw [run_slice_h w 22 a len cap Try.slice22 .i64 (p : Int) (by omega) (by omega), Try.sizeOf22]
  cases a <;> simp [Result.andThen, sliced, Addr.add]

/-- 's[p:]'. -/
theorem run_from (w : World) (a : Option Addr) (l : List UInt8) (cap p : Nat) (h : RowB w a l) (hp : p ≤ l.length) (hl : l.length ≤ cap) :
    ∃ aR, RowB w aR (l.drop p) ∧ ∀ wx, (Instr.slice 22 (.slice a l.length cap) (some (.int .i64 (p : Int))) none none).run Try.prog wx = .ok (.slice aR (l.length - p) (cap - p)) wx := by
  refine ⟨if cap = p then a else a.map (·.add p), ?_, fun wx => ?_⟩
  · rcases h with rfl | ⟨b, off, rfl, hc⟩
    · exact .inl (by simp)
    · by_cases e : cap = p
      · exact .inl (by simp; omega)
      · rw [if_neg e]
        refine .inr ⟨b, off + p, by simp [Addr.add_lit], fun j hj => ?_⟩
        have hj' : p + j < l.length := by simp at hj; omega
        rw [Nat.add_assoc, hc (p + j) hj']
        simp
  · rw [run_slice_l wx 22 a l.length cap Try.slice22 .i64 (p : Int) (by omega) (by omega), Try.sizeOf22]
    simp [Result.andThen, sliced]

/-- 's[p:p+1]', s the whole of a block. -/
theorem run_one (w : World) (a : Option Addr) (l : List UInt8) (n p : Nat) (x : UInt8) (h : RowB w a l) (hn : l.length = n) (hp : p < n) (hx : l[p]? = some x) :
    ∃ aM, RowB w aM [x] ∧ ∀ wx, (Instr.slice 22 (.slice a n n) (some (.int .i64 (p : Int))) (some (.int .i64 ((p : Int) + 1))) none).run Try.prog wx = .ok (.slice aM 1 (n - p)) wx := by
  subst hn
  refine ⟨if l.length = p then a else a.map (·.add p), ?_, fun wx => ?_⟩
  · rcases h with rfl | ⟨b, off, rfl, hc⟩
    · simp at hp
    · rw [if_neg (by omega)]
      refine .inr ⟨b, off + p, by simp [Addr.add_lit], fun j hj => ?_⟩
      obtain rfl : j = 0 := by simp at hj; omega
      rw [Nat.add_zero, hc p hp]
      rw [List.getElem?_eq_getElem hp] at hx
      simp at hx
      simp [hx]
  · rw [run_slice_lh wx 22 a l.length l.length Try.slice22 .i64 .i64 (p : Int) ((p : Int) + 1) (by omega) (by omega) (by omega), Try.sizeOf22]
    simp [Result.andThen, sliced]

theorem fill_more (L : List UInt8) (p k : Nat) (x : UInt8) (h1 : p ≤ k) (h2 : k < L.length) : L.take p ++ [x] ++ (L.drop p).take (k + 1 - p) = L.take p ++ [x] ++ (L.drop p).take (k - p) ++ [L[k]] := by
  have h3 : k - p < (L.drop p).length := by simp; omega
  have e : k + 1 - p = k - p + 1 := by omega
  have e2 : (L.drop p)[k - p] = L[k] := by simp [show p + (k - p) = k by omega]
  rw [e, List.take_succ_eq_append_getElem h3, e2]
  simp

theorem at_place (L : List UInt8) (p : Nat) (x : UInt8) (hp : p ≤ L.length) : (L.take p ++ [x] ++ L.drop p)[p]? = some x := by
  have h : (L.take p).length = p := by simp; omega
  rw [List.append_assoc, List.getElem?_append_right (by omega), h, Nat.sub_self]
  rfl

/-- The left side is empty or not, in the walk's own form. -/
theorem left_ways {L : List UInt8} {p : Nat} {s : ByteArray} (hp : p ≤ L.length) (h : s = ⟨(L.take p).toArray⟩) : (((p : Int) == 0) = true) ∨ (((p : Int) == 0) = false ∧ s.toList.isEmpty = false) := by
  by_cases e : p = 0
  · exact .inl (by subst e; rfl)
  · exact .inr ⟨by simp; omega, str_some h (by simp; omega)⟩

/-- The right side. -/
theorem right_ways {L : List UInt8} {p : Nat} {s : ByteArray} (hp : p ≤ L.length) (h : s = ⟨(L.drop p).toArray⟩) : (((p : Int) == (L.length : Int)) = true) ∨ (((p : Int) == (L.length : Int)) = false ∧ s.toList.isEmpty = false) := by
  by_cases e : p = L.length
  · exact .inl (by simp; omega)
  · exact .inr ⟨by simp; omega, str_some h (by simp; omega)⟩

theorem left_some {L : List UInt8} {p : Nat} (h : allLow (L.take p) = false) : ((p : Int) == 0) = false := by
  by_cases e : p = 0
  · subst e; simp [allLow] at h
  · simp; omega

theorem right_some {L : List UInt8} {p : Nat} (hp : p ≤ L.length) (h : allLow (L.drop p) = false) : ((p : Int) == (L.length : Int)) = false := by
  by_cases e : p = L.length
  · subst e; simp [allLow] at h
  · simp; omega

/-! ### The walk -/
set_option maxHeartbeats 400000 in
theorem one_far (a : Option Addr) (n c : Nat) (i x : Int) (w : World) (hn : n ≤ 9223372036854775807) (h : ¬ (n ≤ 1048576 ∧ 0 ≤ i ∧ i ≤ n)) :
    Calls Try.prog 4 #[.slice a n c, .int .i64 i, .int .u8 x] w fun e w' => e = .returned (.bool true) ∧ Below w.heap.size w w' := by
  by_cases h0 : n ≤ 1048576
  · have h0' : decide (n ≤ 1048576) = true := decide_eq_true h0
    by_cases h1 : i < 0
    · clear h
      go_enter Try.func4, Try.ntmps4
      go_wp2_with (go_at_call 8; refine (bound_one _ _ _ _ _ _ hn).mono ?_; rintro e w' ⟨rfl, rfl⟩)
      go_ret
      exact ⟨rfl, Below.refl _ _⟩
    · have h2 : (n : Int) < i := by omega
      clear h
      go_enter Try.func4, Try.ntmps4
      go_wp2_with (go_at_call 8; refine (bound_one _ _ _ _ _ _ hn).mono ?_; rintro e w' ⟨rfl, rfl⟩)
      go_ret
      exact ⟨rfl, Below.refl _ _⟩
  · have h0' : decide (n ≤ 1048576) = false := decide_eq_false h0
    clear h
    go_enter Try.func4, Try.ntmps4
    go_wp2_with (go_at_call 8; refine (bound_one _ _ _ _ _ _ hn).mono ?_; rintro e w' ⟨rfl, rfl⟩)
    go_ret
    exact ⟨rfl, Below.refl _ _⟩

set_option maxRecDepth 100000 in
set_option maxHeartbeats 1000000 in
theorem one_near (a : Option Addr) (L : List UInt8) (c p : Nat) (x : UInt8) (w : World) (hA : RowB w a L) (na : a = none → L = []) (hn : L.length ≤ 1048576) (hp : p ≤ L.length) :
    Calls Try.prog 4 #[.slice a L.length c, .int .i64 (p : Int), .int .u8 (x.toNat : Int)] w fun e w' => e = .returned (.bool true) ∧ Below w.heap.size w w' := by
  have h0' : decide (L.length ≤ 1048576) = true := decide_eq_true (by omega)
  have hnil := fun (w : World) (a : Option Addr) (n c : Nat) => run_neq_slice_nil_any (P := Try.prog) w 22 5 a n c 0 0 Try.underlying22
  have HA : Hid (RowB w a L) := hA
  have NA : Hid (a = none → L = []) := na
  clear hA na
  go_enter Try.func4, Try.ntmps4
  go_upto_if 33 with (go_at_call 8; refine (bound_one _ _ _ _ _ _ (by omega)).mono ?_; rintro e w' ⟨rfl, hw⟩; subst w')
  go_cut [0] from 16 (fun s0 w1 => ∃ a1 c1, s0 = .slice a1 L.length c1 ∧ L.length ≤ c1 ∧ RowB w1 a1 L ∧ Below w.heap.size w w1)
  case first =>
    cases a with
    | none =>
      have e0 : L = [] := NA.out rfl
      subst e0
      go_wp2
      go_meet
      case rel => exact ⟨_, _, rfl, Nat.zero_le _, .inl rfl, Below.refl _ _⟩
    | some y =>
      go_wp2_with (first | (at_make; refine wpList_make_bytes rfl (.tmp 35) (.tmp 35) rfl _ L.length rfl rfl rfl (by omega) ?_; intro w1 hk1 hb1) | (with_reducible refine at_copy_ ?_; refine wpList_copy_bytes rfl (.tmp 37) (.tmp 38) rfl w.heap.size _ _ _ L (List.replicate L.length 0) rfl rfl hk1.out (by simp) (HA.out.below hb1) w hb1 ?_; intro w2 hk2 hb2))
      go_meet
      case rel => exact ⟨_, _, rfl, Nat.le_refl _, hk2.out.row, hb2⟩
  case rest =>
    rename World => wa
    obtain ⟨a1, c1, rfl, hc1, hA1, hb1⟩ := hcut
    have HA1 : Hid (RowB wa a1 L) := hA1
    have L1 : Hid (Below w.heap.size w wa) := hb1
    clear hA1 hb1 HA NA hnil h0'
    go_wp2_with (at_make; refine wpList_make_bytes rfl (.tmp 43) (.tmp 43) rfl _ (L.length + 1) rfl rfl (by omega) (by omega) ?_; intro w1 hk1 hb1)
    go_loopw [9] (fun i wr => ∃ k : Nat, k ≤ p ∧ i = .int .i64 k ∧ Blk wr wa.heap.size (pad (L.length + 1) (L.take k)) ∧ Below wa.heap.size wa wr) (fun i _ => p - (intOf i).toNat)
    case atStart => exact ⟨0, Nat.zero_le _, rfl, by rw [List.take_zero, pad_nil]; exact hk1.out, hb1⟩
    case round =>
      rename World => wr
      obtain ⟨k, hk, rfl, hblk, hbel⟩ := hrel
      have HK : Hid (Blk wr wa.heap.size (pad (L.length + 1) (L.take k))) := hblk
      have HL : Hid (Below wa.heap.size wa wr) := hbel
      clear hblk hbel hk1 hb1
      by_cases hlt : k < p
      · obtain ⟨ba, oa, rfl, hca⟩ := (HA1.out.below HL.out).at (by omega)
        have hcell := hca k (by omega)
        obtain ⟨⟨o, hold⟩, hfz, HP⟩ := fill_step (x := L[k]) HK.out (k := k) (by simp; omega) (by omega) (List.take_succ_eq_append_getElem (by omega))
        clear hca
        go_wp2
        go_roundw
        case rel => exact ⟨k + 1, by omega, by go_num, HP.out, HL.out.setCell (Nat.le_refl _) _⟩
        case measure => simp [intOf]; omega
      · have ek : k = p := by omega
        subst k
        obtain ⟨⟨o, hold⟩, hfz, HP⟩ := fill_step (x := x) (l' := L.take p ++ [x]) HK.out (k := p) (by simp; omega) (by omega) rfl
        have HL' : Hid (Below wa.heap.size wa (wr.setCell ⟨wa.heap.size, p, none⟩ (.int .u8 (x.toNat : Int)))) := HL.out.setCell (Nat.le_refl _) _
        clear HK HL
        go_wp2
        go_loopw [10] (fun i wr => ∃ k : Nat, p ≤ k ∧ k ≤ L.length ∧ i = .int .i64 k ∧ Blk wr wa.heap.size (pad (L.length + 1) (L.take p ++ [x] ++ (L.drop p).take (k - p))) ∧ Below wa.heap.size wa wr) (fun i _ => L.length - (intOf i).toNat)
        case atStart => exact ⟨p, Nat.le_refl _, hp, rfl, by rw [Nat.sub_self, List.take_zero, List.append_nil]; exact HP.out, HL'.out⟩
        case round =>
          clear HP HL' hold hfz
          rename World => wr
          obtain ⟨k, hpk, hk, rfl, hblk, hbel⟩ := hrel
          have HK : Hid (Blk wr wa.heap.size (pad (L.length + 1) (L.take p ++ [x] ++ (L.drop p).take (k - p)))) := hblk
          have HL : Hid (Below wa.heap.size wa wr) := hbel
          clear hblk hbel
          by_cases hlt : k < L.length
          · obtain ⟨ba, oa, rfl, hca⟩ := (HA1.out.below HL.out).at (by omega)
            have hcell := hca k hlt
            obtain ⟨⟨o, hold⟩, hfz, HP⟩ := fill_step (x := L[k]) (l' := L.take p ++ [x] ++ (L.drop p).take (k + 1 - p)) HK.out (k := k + 1) (by simp; omega) (by omega) (fill_more L p k x hpk hlt)
            clear hca
            go_wp2
            go_roundw
            case rel => exact ⟨k + 1, by omega, by omega, by go_num, HP.out, HL.out.setCell (Nat.le_refl _) _⟩
            case measure => simp [intOf]; omega
          · have ek : (L.drop p).take (k - p) = L.drop p := List.take_of_length_le (by simp; omega)
            rw [ek, pad_full (by simp; omega)] at HK
            clear ek
            have HJ : Hid (RowB wr (some ⟨wa.heap.size, 0, none⟩) (L.take p ++ [x] ++ L.drop p)) := HK.out.row
            have HA3 : Hid (RowB wr a1 L) := HA1.out.below HL.out
            have L3 : Hid (Below w.heap.size w wr) := below_step L1.out HL.out
            clear HK HL HA1 L1
            have hs1 := fun wx => run_upto wx a1 L.length c1 p (by omega)
            obtain ⟨aR, hR, hs2⟩ := run_from wr a1 L c1 p HA3.out hp hc1
            have HT : Hid (RowB wr a1 (L.take p)) := row_take HA3.out p
            have HR : Hid (RowB wr aR (L.drop p)) := hR
            have hTl : (L.take p).length = p := by simp; omega
            have hRl : (L.drop p).length = L.length - p := by simp
            have hJl : (L.take p ++ [x] ++ L.drop p).length = L.length + 1 := by simp; omega
            have hLs : allLow L = (allLow (L.take p) && allLow (L.drop p)) := by rw [← allLow_append, List.take_append_drop]
            have hJs : allLow (L.take p ++ [x] ++ L.drop p) = (allLow (L.take p) && low x && allLow (L.drop p)) := by rw [allLow_append, allLow_append]; simp [allLow]
            clear hR
            by_cases hx : low x = true
            · have C9 : Hid (∀ wx, Calls Try.prog 9 #[.int .u8 (x.toNat : Int)] wx fun e w' => e = .returned (.bool true) ∧ w' = wx) := fun wx => by have := lower_any x wx; rw [hx] at this; exact this
              by_cases hT : allLow (L.take p) = true
              · by_cases hR : allLow (L.drop p) = true
                · obtain ⟨sT, hsT⟩ : ∃ s : ByteArray, s = ⟨(L.take p).toArray⟩ := ⟨_, rfl⟩
                  obtain ⟨sR, hsR⟩ : ∃ s : ByteArray, s = ⟨(L.drop p).toArray⟩ := ⟨_, rfl⟩
                  obtain ⟨sX, hsX⟩ : ∃ s : ByteArray, s = ⟨[x].toArray⟩ := ⟨_, rfl⟩
                  obtain ⟨sM, hsM⟩ : ∃ s : ByteArray, s = ⟨(L.take p ++ [x]).toArray⟩ := ⟨_, rfl⟩
                  obtain ⟨sJ, hsJ⟩ : ∃ s : ByteArray, s = ⟨(L.take p ++ [x] ++ L.drop p).toArray⟩ := ⟨_, rfl⟩
                  obtain ⟨aM, hM, hs3⟩ := run_one wr (some ⟨wa.heap.size, 0, none⟩) (L.take p ++ [x] ++ L.drop p) (L.length + 1) p x HJ.out hJl (by omega) (at_place L p x hp)
                  have hstr := str_at (cap := L.length + 1) HJ.out hJl hsJ
                  have hstx := str_at (n := 1) (cap := L.length + 1 - p) hM rfl hsX
                  have C6 : Hid (Calls Try.prog 6 #[.slice a1 L.length c1] wr fun e w' => e = .returned (.bool true) ∧ w' = wr) := all_at HA3.out rfl (by omega) (by rw [hLs, hT, hR]; rfl)
                  have DJ : Hid (Calls Try.prog 7 #[.slice (some ⟨wa.heap.size, 0, none⟩) (L.length + 1) (L.length + 1)] wr fun e w' => e = .returned (.string sJ) ∧ w' = wr) := asked_at HJ.out hJl (by omega) (by rw [askedL_yes (by rw [hJs, hT, hx, hR]; rfl)]; exact hsJ)
                  have DT : Hid (Calls Try.prog 7 #[.slice a1 p c1] wr fun e w' => e = .returned (.string sT) ∧ w' = wr) := asked_at HT.out hTl (by omega) (by rw [askedL_yes hT]; exact hsT)
                  have DR : Hid (Calls Try.prog 7 #[.slice aR (L.length - p) (c1 - p)] wr fun e w' => e = .returned (.string sR) ∧ w' = wr) := asked_at HR.out hRl (by omega) (by rw [askedL_yes hR]; exact hsR)
                  have hadd1 := run_join (w := wr) hsT hsX hsM (by simp; omega)
                  have hadd2 := run_join (w := wr) hsM hsR hsJ (by simp; omega)
                  have hET := left_ways hp hsT
                  have hER := right_ways hp hsR
                  clear hsT hsR hsX hsM hsJ hT hR hx HJ HA3 HT HR hTl hRl hJl hLs hJs hM
                  go_wp2_with fail
                  refine (C9.out _).mono ?_
                  rintro e w' ⟨rfl, hw⟩; subst w'
                  go_wp2_with fail
                  refine C6.out.mono ?_
                  rintro e w' ⟨rfl, hw⟩; subst w'
                  go_wp2_with fail
                  refine DJ.out.mono ?_
                  rintro e w' ⟨rfl, hw⟩; subst w'
                  go_wp2_with fail
                  refine DT.out.mono ?_
                  rintro e w' ⟨rfl, hw⟩; subst w'
                  go_wp2_with fail
                  refine DR.out.mono ?_
                  rintro e w' ⟨rfl, hw⟩; subst w'
                  rcases hET with hpT | ⟨hpT, heT⟩
                  all_goals
                    rcases hER with hpR | ⟨hpR, heR⟩
                  all_goals
                    go_wp2_with fail
                    refine (C9.out _).mono ?_
                    rintro e w' ⟨rfl, hw⟩; subst w'
                    go_wp2_with fail
                  all_goals
                    go_ret
                    exact ⟨rfl, L3.out⟩
                · have hFR : allLow (L.drop p) = false := by simpa using hR
                  obtain ⟨sT, hsT⟩ : ∃ s : ByteArray, s = ⟨(L.take p).toArray⟩ := ⟨_, rfl⟩
                  have C6 : Hid (Calls Try.prog 6 #[.slice a1 L.length c1] wr fun e w' => e = .returned (.bool false) ∧ w' = wr) := all_at HA3.out rfl (by omega) (by rw [hLs, hT, hFR]; rfl)
                  have DJ : Hid (Calls Try.prog 7 #[.slice (some ⟨wa.heap.size, 0, none⟩) (L.length + 1) (L.length + 1)] wr fun e w' => e = .returned (.string ⟨#[]⟩) ∧ w' = wr) := asked_at HJ.out hJl (by omega) (asked_empty (by rw [hJs, hT, hx, hFR]; rfl))
                  have DT : Hid (Calls Try.prog 7 #[.slice a1 p c1] wr fun e w' => e = .returned (.string sT) ∧ w' = wr) := asked_at HT.out hTl (by omega) (by rw [askedL_yes hT]; exact hsT)
                  have DR : Hid (Calls Try.prog 7 #[.slice aR (L.length - p) (c1 - p)] wr fun e w' => e = .returned (.string ⟨#[]⟩) ∧ w' = wr) := asked_at HR.out hRl (by omega) (asked_empty hFR)
                  have hET := left_ways hp hsT
                  have hpR := right_some hp hFR
                  clear hsT hT hR hFR hx HJ HA3 HT HR hTl hRl hJl hLs hJs
                  go_wp2_with fail
                  refine (C9.out _).mono ?_
                  rintro e w' ⟨rfl, hw⟩; subst w'
                  go_wp2_with fail
                  refine C6.out.mono ?_
                  rintro e w' ⟨rfl, hw⟩; subst w'
                  go_wp2_with fail
                  refine DJ.out.mono ?_
                  rintro e w' ⟨rfl, hw⟩; subst w'
                  go_wp2_with fail
                  refine DT.out.mono ?_
                  rintro e w' ⟨rfl, hw⟩; subst w'
                  go_wp2_with fail
                  refine DR.out.mono ?_
                  rintro e w' ⟨rfl, hw⟩; subst w'
                  rcases hET with hpT | ⟨hpT, heT⟩
                  all_goals
                    go_wp2_with fail
                    refine (C9.out _).mono ?_
                    rintro e w' ⟨rfl, hw⟩; subst w'
                    go_wp2_with fail
                  all_goals
                    go_ret
                    exact ⟨rfl, L3.out⟩
              · have hFT : allLow (L.take p) = false := by simpa using hT
                obtain ⟨sR, hsR⟩ : ∃ s : ByteArray, s = ⟨(askedL (L.drop p)).toArray⟩ := ⟨_, rfl⟩
                have C6 : Hid (Calls Try.prog 6 #[.slice a1 L.length c1] wr fun e w' => e = .returned (.bool false) ∧ w' = wr) := all_at HA3.out rfl (by omega) (by rw [hLs, hFT]; rfl)
                have DJ : Hid (Calls Try.prog 7 #[.slice (some ⟨wa.heap.size, 0, none⟩) (L.length + 1) (L.length + 1)] wr fun e w' => e = .returned (.string ⟨#[]⟩) ∧ w' = wr) := asked_at HJ.out hJl (by omega) (asked_empty (by rw [hJs, hFT]; rfl))
                have DT : Hid (Calls Try.prog 7 #[.slice a1 p c1] wr fun e w' => e = .returned (.string ⟨#[]⟩) ∧ w' = wr) := asked_at HT.out hTl (by omega) (asked_empty hFT)
                have DR : Hid (Calls Try.prog 7 #[.slice aR (L.length - p) (c1 - p)] wr fun e w' => e = .returned (.string sR) ∧ w' = wr) := asked_at HR.out hRl (by omega) hsR
                have hpT := left_some hFT
                clear hsR hT hFT hx HJ HA3 HT HR hTl hRl hJl hLs hJs
                go_wp2_with fail
                refine (C9.out _).mono ?_
                rintro e w' ⟨rfl, hw⟩; subst w'
                go_wp2_with fail
                refine C6.out.mono ?_
                rintro e w' ⟨rfl, hw⟩; subst w'
                go_wp2_with fail
                refine DJ.out.mono ?_
                rintro e w' ⟨rfl, hw⟩; subst w'
                go_wp2_with fail
                refine DT.out.mono ?_
                rintro e w' ⟨rfl, hw⟩; subst w'
                go_wp2_with fail
                refine DR.out.mono ?_
                rintro e w' ⟨rfl, hw⟩; subst w'
                go_wp2_with fail
                refine (C9.out _).mono ?_
                rintro e w' ⟨rfl, hw⟩; subst w'
                go_wp2_with fail
                go_ret
                exact ⟨rfl, L3.out⟩
            · have hx' : low x = false := by simpa using hx
              have C9 : Hid (∀ wx, Calls Try.prog 9 #[.int .u8 (x.toNat : Int)] wx fun e w' => e = .returned (.bool false) ∧ w' = wx) := fun wx => by have := lower_any x wx; rw [hx'] at this; exact this
              obtain ⟨sT, hsT⟩ : ∃ s : ByteArray, s = ⟨(askedL (L.take p)).toArray⟩ := ⟨_, rfl⟩
              obtain ⟨sR, hsR⟩ : ∃ s : ByteArray, s = ⟨(askedL (L.drop p)).toArray⟩ := ⟨_, rfl⟩
              have DJ : Hid (Calls Try.prog 7 #[.slice (some ⟨wa.heap.size, 0, none⟩) (L.length + 1) (L.length + 1)] wr fun e w' => e = .returned (.string ⟨#[]⟩) ∧ w' = wr) := asked_at HJ.out hJl (by omega) (asked_empty (by rw [hJs, hx']; simp))
              have DT : Hid (Calls Try.prog 7 #[.slice a1 p c1] wr fun e w' => e = .returned (.string sT) ∧ w' = wr) := asked_at HT.out hTl (by omega) hsT
              have DR : Hid (Calls Try.prog 7 #[.slice aR (L.length - p) (c1 - p)] wr fun e w' => e = .returned (.string sR) ∧ w' = wr) := asked_at HR.out hRl (by omega) hsR
              clear hsT hsR hx hx' HJ HA3 HT HR hTl hRl hJl hLs hJs
              go_wp2_with fail
              refine (C9.out _).mono ?_
              rintro e w' ⟨rfl, hw⟩; subst w'
              go_wp2_with fail
              refine DJ.out.mono ?_
              rintro e w' ⟨rfl, hw⟩; subst w'
              go_wp2_with fail
              refine DT.out.mono ?_
              rintro e w' ⟨rfl, hw⟩; subst w'
              go_wp2_with fail
              refine DR.out.mono ?_
              rintro e w' ⟨rfl, hw⟩; subst w'
              rcases Bool.eq_false_or_eq_true ((p : Int) == 0) with hpT | hpT
              all_goals
                rcases Bool.eq_false_or_eq_true sT.toList.isEmpty with heT | heT
              all_goals
                rcases Bool.eq_false_or_eq_true ((p : Int) == (L.length : Int)) with hpR | hpR
              all_goals
                rcases Bool.eq_false_or_eq_true sR.toList.isEmpty with heR | heR
              all_goals
                go_wp2_with fail
                refine (C9.out _).mono ?_
                rintro e w' ⟨rfl, hw⟩; subst w'
                go_wp2_with fail
              all_goals
                go_ret
                exact ⟨rfl, L3.out⟩
end Go.Proofs.Qxb6630907a
