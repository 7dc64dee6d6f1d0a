/-
  DERIVED. THE WALK of FnAskedJoinAtAnyCut (3). By an AI agent.
-/
import Derived.Test.Qxb6630907aParts
import Derived.Deep.CutRange
namespace Go.Proofs.Qxb6630907a
open Go.RowKit

set_option maxHeartbeats 400000 in
theorem join_far (a b : Option Addr) (n m c d : Nat) (w : World) (hn : n ≤ 9223372036854775807) (hm : m ≤ 9223372036854775807) (h : ¬ (n ≤ 524288 ∧ m ≤ 524288)) :
    Calls Try.prog 3 #[.slice a n c, .slice b m d] w fun e w' => e = .returned (.bool true) ∧ Below w.heap.size w w' := by
  by_cases h0 : n + m ≤ 1048576
  · have h0' : decide (n + m ≤ 1048576) = true := decide_eq_true h0
    by_cases h1 : n ≤ 524288
    · have h2 : ¬ m ≤ 524288 := fun h' => h ⟨h1, h'⟩
      go_enter Try.func3, Try.ntmps3
      go_wp2_with (go_at_call 5; refine (bound_join _ _ _ _ _ _ _ hn hm).mono ?_; rintro e w' ⟨rfl, rfl⟩)
      go_ret
      exact ⟨rfl, Below.refl _ _⟩
    · go_enter Try.func3, Try.ntmps3
      go_wp2_with (go_at_call 5; refine (bound_join _ _ _ _ _ _ _ hn hm).mono ?_; rintro e w' ⟨rfl, rfl⟩)
      go_ret
      exact ⟨rfl, Below.refl _ _⟩
  · have h0' : decide (n + m ≤ 1048576) = false := decide_eq_false h0
    go_enter Try.func3, Try.ntmps3
    go_wp2_with (go_at_call 5; refine (bound_join _ _ _ _ _ _ _ hn hm).mono ?_; rintro e w' ⟨rfl, rfl⟩)
    go_ret
    exact ⟨rfl, Below.refl _ _⟩

set_option maxRecDepth 100000 in
set_option maxHeartbeats 1000000 in
theorem join_near (a b : Option Addr) (A B : List UInt8) (c d : Nat) (w : World) (hA : RowB w a A) (hB : RowB w b B) (na : a = none → A = []) (nb : b = none → B = []) (hn : A.length ≤ 524288) (hm : B.length ≤ 524288) :
    Calls Try.prog 3 #[.slice a A.length c, .slice b B.length d] w fun e w' => e = .returned (.bool true) ∧ Below w.heap.size w w' := by
  have h0' : decide (A.length + B.length ≤ 1048576) = true := decide_eq_true (by omega)
  have hnil := fun (w : World) (a : Option Addr) (n c : Nat) => run_neq_slice_nil_any (P := Try.prog) w 22 5 a n c 0 0 Try.underlying22
  have HA : Hid (RowB w a A) := hA
  have HB : Hid (RowB w b B) := hB
  have NA : Hid (a = none → A = []) := na
  have NB : Hid (b = none → B = []) := nb
  clear hA hB na nb
  go_enter Try.func3, Try.ntmps3
  go_upto_if 27 with (go_at_call 5; refine (bound_join _ _ _ _ _ _ _ (by omega) (by omega)).mono ?_; rintro e w' ⟨rfl, hw⟩; subst w')
  go_cut [0] from 16 (fun s0 w1 => ∃ a1 c1, s0 = .slice a1 A.length c1 ∧ RowB w1 a1 A ∧ Below w.heap.size w w1)
  case first =>
    cases a with
    | none =>
      have e0 : A = [] := NA.out rfl
      subst e0
      go_wp2
      go_meet
      case rel => exact ⟨_, _, rfl, .inl rfl, Below.refl _ _⟩
    | some x =>
      go_wp2_with (first | (at_make; refine wpList_make_bytes rfl (.tmp 29) (.tmp 29) rfl _ A.length rfl rfl rfl (by omega) ?_; intro w1 hk1 hb1) | (with_reducible refine at_copy_ ?_; refine wpList_copy_bytes rfl (.tmp 31) (.tmp 32) rfl w.heap.size _ _ _ A (List.replicate A.length 0) rfl rfl hk1.out (by simp) (HA.out.below hb1) w hb1 ?_; intro w2 hk2 hb2))
      go_meet
      case rel => exact ⟨_, _, rfl, hk2.out.row, hb2⟩
  case rest =>
    rename World => wa
    obtain ⟨a1, c1, rfl, hA1, hb1⟩ := hcut
    have HA1 : Hid (RowB wa a1 A) := hA1
    have HB1 : Hid (RowB wa b B) := HB.out.below hb1
    have L1 : Hid (Below w.heap.size w wa) := hb1
    clear hA1 hb1 HA HB NA
    go_upto_if 36 with fail
    go_cut [1] from 16 (fun s1 w1 => ∃ b1 d1, s1 = .slice b1 B.length d1 ∧ RowB w1 b1 B ∧ Below wa.heap.size wa w1)
    case first =>
      cases b with
      | none =>
        have e0 : B = [] := NB.out rfl
        subst e0
        go_wp2
        go_meet
        case rel => exact ⟨_, _, rfl, .inl rfl, Below.refl _ _⟩
      | some x =>
        go_wp2_with (first | (at_make; refine wpList_make_bytes rfl (.tmp 38) (.tmp 38) rfl _ B.length rfl rfl rfl (by omega) ?_; intro w1 hk1 hb1) | (with_reducible refine at_copy_ ?_; refine wpList_copy_bytes rfl (.tmp 40) (.tmp 41) rfl wa.heap.size _ _ _ B (List.replicate B.length 0) rfl rfl hk1.out (by simp) (HB1.out.below hb1) wa hb1 ?_; intro w2 hk2 hb2))
        go_meet
        case rel => exact ⟨_, _, rfl, hk2.out.row, hb2⟩
    case rest =>
      rename World => wb
      obtain ⟨b1, d1, rfl, hB2, hb2⟩ := hcut
      have HA2 : Hid (RowB wb a1 A) := HA1.out.below hb2
      have HB2 : Hid (RowB wb b1 B) := hB2
      have L2 : Hid (Below w.heap.size w wb) := below_step L1.out hb2
      clear hB2 hb2 HA1 HB1 NB L1
      go_wp2_with (at_make; refine wpList_make_bytes rfl (.tmp 49) (.tmp 49) rfl _ (A.length + B.length) rfl rfl (by omega) (by omega) ?_; intro w1 hk1 hb1)
      go_loopw [9] (fun i wr => ∃ k : Nat, k ≤ A.length ∧ i = .int .i64 k ∧ Blk wr wb.heap.size (pad (A.length + B.length) (A.take k)) ∧ Below wb.heap.size wb wr) (fun i _ => A.length - (intOf i).toNat)
      case atStart => exact ⟨0, Nat.zero_le _, rfl, by rw [List.take_zero, pad_nil]; exact hk1.out, hb1⟩
      case round =>
        rename World => wr
        obtain ⟨k, hk, rfl, hblk, hbel⟩ := hrel
        have HK : Hid (Blk wr wb.heap.size (pad (A.length + B.length) (A.take k))) := hblk
        have HL : Hid (Below wb.heap.size wb wr) := hbel
        clear hblk hbel hk1 hb1
        by_cases hlt : k < A.length
        · obtain ⟨ba, oa, rfl, hca⟩ := (HA2.out.below HL.out).at (by omega)
          have hcell := hca k hlt
          obtain ⟨⟨o, hold⟩, hfz, HP⟩ := fill_step (x := A[k]) HK.out (k := k) (by simp; omega) (by omega) (List.take_succ_eq_append_getElem hlt)
          clear hca
          go_wp2
          go_roundw
          case rel => exact ⟨k + 1, by omega, by go_num, HP.out, HL.out.setCell (Nat.le_refl _) _⟩
          case measure => simp [intOf]; omega
        · have ek : A.take k = A := List.take_of_length_le (by omega)
          rw [ek] at HK
          clear ek
          go_wp2
          go_loopw [10] (fun i wr => ∃ k : Nat, k ≤ B.length ∧ i = .int .i64 k ∧ Blk wr wb.heap.size (pad (A.length + B.length) (A ++ B.take k)) ∧ Below wb.heap.size wb wr) (fun i _ => B.length - (intOf i).toNat)
          case atStart => exact ⟨0, Nat.zero_le _, rfl, by rw [List.take_zero, List.append_nil]; exact HK.out, HL.out⟩
          case round =>
            clear HK HL
            rename World => wr
            obtain ⟨k, hk, rfl, hblk, hbel⟩ := hrel
            have HK : Hid (Blk wr wb.heap.size (pad (A.length + B.length) (A ++ B.take k))) := hblk
            have HL : Hid (Below wb.heap.size wb wr) := hbel
            clear hblk hbel
            by_cases hlt : k < B.length
            · obtain ⟨bb, ob, rfl, hcb⟩ := (HB2.out.below HL.out).at (by omega)
              have hcell := hcb k hlt
              obtain ⟨⟨o, hold⟩, hfz, HP⟩ := fill_step (x := B[k]) (l' := A ++ B.take (k + 1)) HK.out (k := A.length + k) (by simp; omega) (by omega) (by rw [List.take_succ_eq_append_getElem hlt, List.append_assoc])
              clear hcb
              go_wp2
              go_roundw
              case rel => exact ⟨k + 1, by omega, by go_num, HP.out, HL.out.setCell (Nat.le_refl _) _⟩
              case measure => simp [intOf]; omega
            · have ek : B.take k = B := List.take_of_length_le (by omega)
              rw [ek, pad_full (by simp)] at HK
              clear ek
              have HJ : Hid (RowB wr (some ⟨wb.heap.size, 0, none⟩) (A ++ B)) := HK.out.row
              have HA3 : Hid (RowB wr a1 A) := HA2.out.below HL.out
              have HB3 : Hid (RowB wr b1 B) := HB2.out.below HL.out
              have L3 : Hid (Below w.heap.size w wr) := below_step L2.out HL.out
              clear HK HL HA2 HB2 L2
              clear hnil h0'
              by_cases hTA : allLow A = true
              · by_cases hTB : allLow B = true
                · obtain ⟨sA, hsA⟩ : ∃ s : ByteArray, s = ⟨A.toArray⟩ := ⟨_, rfl⟩
                  obtain ⟨sB, hsB⟩ : ∃ s : ByteArray, s = ⟨B.toArray⟩ := ⟨_, rfl⟩
                  obtain ⟨sJ, hsJ⟩ : ∃ s : ByteArray, s = ⟨(A ++ B).toArray⟩ := ⟨_, rfl⟩
                  have hstr := str_at (n := A.length + B.length) (cap := A.length + B.length) HJ.out (by simp) hsJ
                  have CA : Hid (Calls Try.prog 6 #[.slice a1 A.length c1] wr fun e w' => e = .returned (.bool true) ∧ w' = wr) := all_at HA3.out rfl (by omega) hTA
                  have CB : Hid (Calls Try.prog 6 #[.slice b1 B.length d1] wr fun e w' => e = .returned (.bool true) ∧ w' = wr) := all_at HB3.out rfl (by omega) hTB
                  have DJ : Hid (Calls Try.prog 7 #[.slice (some ⟨wb.heap.size, 0, none⟩) (A.length + B.length) (A.length + B.length)] wr fun e w' => e = .returned (.string sJ) ∧ w' = wr) := asked_at HJ.out (by simp) (by omega) (by rw [askedL_yes (by rw [allLow_append, hTA, hTB]; rfl)]; exact hsJ)
                  have DA : Hid (Calls Try.prog 7 #[.slice a1 A.length c1] wr fun e w' => e = .returned (.string sA) ∧ w' = wr) := asked_at HA3.out rfl (by omega) (by rw [askedL_yes hTA]; exact hsA)
                  have DB : Hid (Calls Try.prog 7 #[.slice b1 B.length d1] wr fun e w' => e = .returned (.string sB) ∧ w' = wr) := asked_at HB3.out rfl (by omega) (by rw [askedL_yes hTB]; exact hsB)
                  have hadd := run_join (w := wr) hsA hsB hsJ (by omega)
                  have hEA := two_ways hsA
                  have hEB := two_ways hsB
                  clear hsA hsB hsJ hTA hTB HJ HA3 HB3
                  go_wp2_with fail
                  refine CA.out.mono ?_
                  rintro e w' ⟨rfl, hw⟩; subst w'
                  go_wp2_with fail
                  refine CB.out.mono ?_
                  rintro e w' ⟨rfl, hw⟩; subst w'
                  go_wp2_with fail
                  refine DJ.out.mono ?_
                  rintro e w' ⟨rfl, hw⟩; subst w'
                  go_wp2_with fail
                  refine DA.out.mono ?_
                  rintro e w' ⟨rfl, hw⟩; subst w'
                  go_wp2_with fail
                  refine DB.out.mono ?_
                  rintro e w' ⟨rfl, hw⟩; subst w'
                  clear CA CB DJ DA DB hstr
                  rcases hEA with hpA | ⟨hpA, heA⟩
                  all_goals
                    rcases hEB with hpB | ⟨hpB, heB⟩
                  all_goals
                    go_wp2_with fail
                  all_goals
                    go_ret
                    exact ⟨rfl, L3.out⟩
                · have hFB : allLow B = false := by simpa using hTB
                  obtain ⟨sA, hsA⟩ : ∃ s : ByteArray, s = ⟨A.toArray⟩ := ⟨_, rfl⟩
                  have CA : Hid (Calls Try.prog 6 #[.slice a1 A.length c1] wr fun e w' => e = .returned (.bool true) ∧ w' = wr) := all_at HA3.out rfl (by omega) hTA
                  have CB : Hid (Calls Try.prog 6 #[.slice b1 B.length d1] wr fun e w' => e = .returned (.bool false) ∧ w' = wr) := all_at HB3.out rfl (by omega) hFB
                  have DJ : Hid (Calls Try.prog 7 #[.slice (some ⟨wb.heap.size, 0, none⟩) (A.length + B.length) (A.length + B.length)] wr fun e w' => e = .returned (.string ⟨#[]⟩) ∧ w' = wr) := asked_at HJ.out (by simp) (by omega) (asked_empty (by rw [allLow_append, hTA, hFB]; rfl))
                  have DA : Hid (Calls Try.prog 7 #[.slice a1 A.length c1] wr fun e w' => e = .returned (.string sA) ∧ w' = wr) := asked_at HA3.out rfl (by omega) (by rw [askedL_yes hTA]; exact hsA)
                  have DB : Hid (Calls Try.prog 7 #[.slice b1 B.length d1] wr fun e w' => e = .returned (.string ⟨#[]⟩) ∧ w' = wr) := asked_at HB3.out rfl (by omega) (asked_empty hFB)
                  have hEA := two_ways hsA
                  have hpB := some_of_false hFB
                  clear hsA hTA hTB hFB HJ HA3 HB3
                  go_wp2_with fail
                  refine CA.out.mono ?_
                  rintro e w' ⟨rfl, hw⟩; subst w'
                  go_wp2_with fail
                  refine CB.out.mono ?_
                  rintro e w' ⟨rfl, hw⟩; subst w'
                  go_wp2_with fail
                  refine DJ.out.mono ?_
                  rintro e w' ⟨rfl, hw⟩; subst w'
                  go_wp2_with fail
                  refine DA.out.mono ?_
                  rintro e w' ⟨rfl, hw⟩; subst w'
                  go_wp2_with fail
                  refine DB.out.mono ?_
                  rintro e w' ⟨rfl, hw⟩; subst w'
                  clear CA CB DJ DA DB
                  rcases hEA with hpA | ⟨hpA, heA⟩
                  all_goals
                    go_wp2_with fail
                  all_goals
                    go_ret
                    exact ⟨rfl, L3.out⟩
              · have hFA : allLow A = false := by simpa using hTA
                obtain ⟨sB, hsB⟩ : ∃ s : ByteArray, s = ⟨(askedL B).toArray⟩ := ⟨_, rfl⟩
                have CA : Hid (Calls Try.prog 6 #[.slice a1 A.length c1] wr fun e w' => e = .returned (.bool false) ∧ w' = wr) := all_at HA3.out rfl (by omega) hFA
                have DJ : Hid (Calls Try.prog 7 #[.slice (some ⟨wb.heap.size, 0, none⟩) (A.length + B.length) (A.length + B.length)] wr fun e w' => e = .returned (.string ⟨#[]⟩) ∧ w' = wr) := asked_at HJ.out (by simp) (by omega) (asked_empty (by rw [allLow_append, hFA]; rfl))
                have DA : Hid (Calls Try.prog 7 #[.slice a1 A.length c1] wr fun e w' => e = .returned (.string ⟨#[]⟩) ∧ w' = wr) := asked_at HA3.out rfl (by omega) (asked_empty hFA)
                have DB : Hid (Calls Try.prog 7 #[.slice b1 B.length d1] wr fun e w' => e = .returned (.string sB) ∧ w' = wr) := asked_at HB3.out rfl (by omega) hsB
                have hpA := some_of_false hFA
                clear hsB hTA hFA HJ HA3 HB3
                go_wp2_with fail
                refine CA.out.mono ?_
                rintro e w' ⟨rfl, hw⟩; subst w'
                go_wp2_with fail
                refine DJ.out.mono ?_
                rintro e w' ⟨rfl, hw⟩; subst w'
                go_wp2_with fail
                refine DA.out.mono ?_
                rintro e w' ⟨rfl, hw⟩; subst w'
                go_wp2_with fail
                refine DB.out.mono ?_
                rintro e w' ⟨rfl, hw⟩; subst w'
                clear CA DJ DA DB
                go_wp2_with fail
                go_ret
                exact ⟨rfl, L3.out⟩
end Go.Proofs.Qxb6630907a
