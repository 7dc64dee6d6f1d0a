/-
  DERIVED. THE WALKS of the callees: isLowerByte (9), allLowerBytes (6), Asked (7), the two length bounds (5, 8). By an AI agent.
-/
import Derived.Test.Qxb6630907aRows
import Derived.Test.Qxb6630907aPlain
import Derived.WalkKit
import Derived.ProofKit
import Derived.WalkSpells
import Derived.WalkLawsBesides
import Derived.Below
import Derived.Laws.IdiomStrings
namespace Go.Proofs.Qxb6630907a
open Go.RowKit

theorem ret_bool {a b : Bool} (h : a = b) : Ending.returned (.bool a) = .returned (.bool b) := by rw [h]
theorem ret_str {a b : List UInt8} (h : a = b) : Ending.returned (.string ⟨a.toArray⟩) = .returned (.string ⟨b.toArray⟩) := by rw [h]

/-- A slice's first cells hold the bytes l (nothing is said of the address of an empty one). -/
def RowB (w : World) (a : Option Addr) (l : List UInt8) : Prop :=
  l = [] ∨ ∃ b off, a = some ⟨b, off, none⟩ ∧ ∀ j (hj : j < l.length), w.cell? ⟨b, off + j, none⟩ = some (.int .u8 (l[j].toNat : Int))

/-- 'string(s)'. -/
theorem run_str (w : World) (a : Option Addr) (l : List UInt8) (cap : Nat) (h : RowB w a l) :
    (convert 22 9 (.slice a l.length cap)).run Try.prog w = .ok (.string ⟨l.toArray⟩) w := by
  rcases h with rfl | ⟨b, off, rfl, hc⟩
  · cases a with
    | none =>
      rw [run_convert_bytes_string w 22 9 5 none _ cap Try.underlying22 Try.underlying5 Try.underlying9]
      simp [Conv.bytesToString, Sem.run_pure]
      rfl
    | some x => exact run_convert_bytes_back w 22 9 5 x cap [] Try.underlying22 Try.underlying5 Try.underlying9 (fun j hj => absurd hj (by simp))
  · exact run_convert_bytes_back w 22 9 5 _ cap l Try.underlying22 Try.underlying5 Try.underlying9 (fun j hj => by rw [Addr.add_lit]; exact hc j hj)

set_option maxHeartbeats 400000 in
theorem lower_any (x : UInt8) (w : World) :
    Calls Try.prog 9 #[.int .u8 (x.toNat : Int)] w fun e w' => e = .returned (.bool (low x)) ∧ w' = w := by
  have hx : (x.toNat : Int) ≤ 255 := by have := x.toNat_lt; omega
  have hx0 : 0 ≤ (x.toNat : Int) := by omega
  rcases low_split x with ⟨h1, h2, h3⟩ | ⟨h1, h3⟩ | ⟨h1, h3⟩
  all_goals
    go_enter Try.func9, Try.ntmps9
    go_wp2
    go_ret
    refine ⟨ret_bool ?_, rfl⟩
    rw [h3]
    first | exact decide_eq_true (by omega) | exact decide_eq_false (by omega)

set_option maxHeartbeats 400000 in
theorem all_any (a : Option Addr) (l : List UInt8) (cap : Nat) (w : World) (h : RowB w a l) (hm : l.length ≤ 4294967296) :
    Calls Try.prog 6 #[.slice a l.length cap] w fun e w' => e = .returned (.bool (allLow l)) ∧ w' = w := by
  rcases h with rfl | ⟨b, off, rfl, hc⟩
  · go_enter Try.func6, Try.ntmps6
    go_wp2
    refine wp_loop_rounds 1 ?_
    rw [rounds_succ]
    go_wp2
    go_ret
    exact ⟨rfl, rfl⟩
  · go_enter Try.func6, Try.ntmps6
    go_wp2
    go_loop [3] (fun i => ∃ k : Nat, k ≤ l.length ∧ i = .int .i64 k ∧ allLow (l.take k) = true) (fun i => l.length - (intOf i).toNat)
    case atStart => exact ⟨0, Nat.zero_le _, rfl, rfl⟩
    case round =>
      obtain ⟨k, hk, rfl, hall⟩ := hrel
      have HA : Hid (allLow (l.take k) = true) := hall
      clear hall
      by_cases hlt : k < l.length
      · have hcell := hc k hlt
        have hs := allLow_take_succ l k hlt
        have HS : Hid (allLow (l.take (k + 1)) = (allLow (l.take k) && low l[k])) := hs
        have hf := allLow_false_of l k hlt
        clear hs
        by_cases hl : low l[k] = true
        · clear hf
          go_wp2_with (go_at_call 9; refine (lower_any _ _).mono ?_; rintro e w' ⟨rfl, rfl⟩)
          go_round
          case rel => exact ⟨k + 1, by omega, by go_num, by rw [HS.out, HA.out, hl]; rfl⟩
          case measure => simp [intOf]; omega
        · have hl' : low l[k] = false := by simpa using hl
          have HF : Hid (allLow l = false) := hf hl'
          clear hf hl
          go_wp2_with (go_at_call 9; refine (lower_any _ _).mono ?_; rintro e w' ⟨rfl, rfl⟩)
          go_ret
          exact ⟨ret_bool HF.out.symm, rfl⟩
      · have HF : Hid (allLow l = true) := by
          have : l.take k = l := List.take_of_length_le (by omega)
          rw [this] at HA; exact HA
        go_wp2
        go_ret
        exact ⟨ret_bool HF.out.symm, rfl⟩

set_option maxHeartbeats 400000 in
theorem asked_any (a : Option Addr) (l : List UInt8) (cap : Nat) (w : World) (h : RowB w a l) (hm : l.length ≤ 4294967296) :
    Calls Try.prog 7 #[.slice a l.length cap] w fun e w' => e = .returned (.string ⟨(askedL l).toArray⟩) ∧ w' = w := by
  have hstr := run_str w a l cap h
  rcases h with rfl | ⟨b, off, rfl, hc⟩
  · replace hstr : (convert 22 9 (.slice a 0 cap)).run Try.prog w = .ok (.string ⟨#[]⟩) w := hstr
    go_enter Try.func7, Try.ntmps7
    go_wp2
    refine wp_loop_rounds 1 ?_
    rw [rounds_succ]
    go_wp2
    go_ret
    exact ⟨rfl, rfl⟩
  · go_enter Try.func7, Try.ntmps7
    go_wp2
    go_loop [7] (fun i => ∃ k : Nat, k ≤ l.length ∧ i = .int .i64 k ∧ allLow (l.take k) = true) (fun i => l.length - (intOf i).toNat)
    case atStart => exact ⟨0, Nat.zero_le _, rfl, rfl⟩
    case round =>
      obtain ⟨k, hk, rfl, hall⟩ := hrel
      have HA : Hid (allLow (l.take k) = true) := hall
      clear hall
      by_cases hlt : k < l.length
      · have hcell := hc k hlt
        have hs := allLow_take_succ l k hlt
        have HS : Hid (allLow (l.take (k + 1)) = (allLow (l.take k) && low l[k])) := hs
        have hf := allLow_false_of l k hlt
        clear hs
        rcases low_split l[k] with ⟨h1, h2, h3⟩ | ⟨h1, h3⟩ | ⟨h1, h3⟩
        · have H3 : Hid (low l[k] = true) := h3
          clear hf h3
          go_wp2
          go_round
          case rel => exact ⟨k + 1, by omega, by go_num, by rw [HS.out, HA.out, H3.out]; rfl⟩
          case measure => simp [intOf]; omega
        · have HF : Hid (allLow l = false) := hf h3
          clear hf h3
          go_wp2
          go_ret
          exact ⟨ret_str (askedL_no HF.out).symm, rfl⟩
        · have HF : Hid (allLow l = false) := hf h3
          clear hf h3
          go_wp2
          go_ret
          exact ⟨ret_str (askedL_no HF.out).symm, rfl⟩
      · have HF : Hid (allLow l = true) := by
          have : l.take k = l := List.take_of_length_le (by omega)
          rw [this] at HA; exact HA
        go_wp2
        go_ret
        exact ⟨ret_str (askedL_yes HF.out).symm, rfl⟩

set_option maxHeartbeats 400000 in
theorem bound_join (a b : Option Addr) (n m c d : Nat) (w : World) (hn : n ≤ 9223372036854775807) (hm : m ≤ 9223372036854775807) :
    Calls Try.prog 5 #[.slice a n c, .slice b m d] w fun e w' => e = .returned (.bool (decide (n + m ≤ 1048576))) ∧ w' = w := by
  by_cases h1 : n ≤ 1048576
  · by_cases h2 : m ≤ 1048576
    · by_cases h3 : n + m ≤ 1048576
      · go_enter Try.func5, Try.ntmps5
        go_wp2
        go_ret
        exact ⟨ret_bool (decide_eq_true h3).symm, rfl⟩
      · go_enter Try.func5, Try.ntmps5
        go_wp2
        go_ret
        exact ⟨ret_bool (decide_eq_false h3).symm, rfl⟩
    · go_enter Try.func5, Try.ntmps5
      go_wp2
      go_ret
      exact ⟨ret_bool (decide_eq_false (by omega)).symm, rfl⟩
  · go_enter Try.func5, Try.ntmps5
    go_wp2
    go_ret
    exact ⟨ret_bool (decide_eq_false (by omega)).symm, rfl⟩

set_option maxHeartbeats 400000 in
theorem bound_one (a : Option Addr) (n c : Nat) (i x : Int) (w : World) (hn : n ≤ 9223372036854775807) :
    Calls Try.prog 8 #[.slice a n c, .int .i64 i, .int .u8 x] w fun e w' => e = .returned (.bool (decide (n ≤ 1048576))) ∧ w' = w := by
  by_cases h1 : n ≤ 1048576
  · go_enter Try.func8, Try.ntmps8
    go_wp2
    go_ret
    exact ⟨ret_bool (decide_eq_true h1).symm, rfl⟩
  · go_enter Try.func8, Try.ntmps8
    go_wp2
    go_ret
    exact ⟨ret_bool (decide_eq_false (by omega)).symm, rfl⟩
end Go.Proofs.Qxb6630907a
