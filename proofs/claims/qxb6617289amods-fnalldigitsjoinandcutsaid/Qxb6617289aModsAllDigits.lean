import Derived.Test.Qxb6617289aModsRows
import Derived.Test.Qxb6617289aModsDigPlain
import Derived.WalkKit
import Derived.ProofKit
import Derived.Lib.Strings
namespace Go.Proofs.Qxb6617289aMods.Ad
open Go.ChangeShapes Go.WideShapes Go.ChangeAt Go.RowKit
open Dp

theorem take_snoc (s : ByteArray) (k : Nat) (h : k < s.size) : s.data.toList.take (k + 1) = s.data.toList.take k ++ [s[k]] := by
  rw [List.take_succ_eq_append_getElem (by simpa using h)]; rfl

theorem all_next (s : ByteArray) (k : Nat) (h : k < s.size) (ha : (s.data.toList.take k).all isDig = true) (h0 : ¬ ((s[k].toNat : Int) < 48)) (h1 : ¬ (57 < (s[k].toNat : Int))) :
    (s.data.toList.take (k + 1)).all isDig = true := by
  rw [take_snoc s k h, List.all_append, ha, Bool.true_and]
  simp only [List.all_cons, List.all_nil, Bool.and_true]
  exact isDig_true (by omega)

theorem adig_no (s : ByteArray) (k : Nat) (h : k < s.size) (h0 : (s[k].toNat : Int) < 48 ∨ 57 < (s[k].toNat : Int)) : adig s.data.toList = false := by
  unfold adig
  have : s.data.toList.all isDig = false := by
    rw [List.all_eq_false]
    refine ⟨s[k], ?_, ?_⟩
    · show s.data[k] ∈ s.data.toList
      simp
    · simp only [isDig, Bool.and_eq_true, decide_eq_true_eq]; omega
  rw [this]; simp

theorem adig_yes (s : ByteArray) (h : 0 < s.size) (ha : (s.data.toList.take s.size).all isDig = true) : adig s.data.toList = true := by
  refine adig_of (by simpa using h) ?_
  rwa [List.take_of_length_le (by simp)] at ha

theorem ret_bool {a b : Bool} (h : a = b) : Ending.returned (.bool a) = .returned (.bool b) := by rw [h]

set_option maxHeartbeats 400000 in
theorem allDigits_some (s : ByteArray) (w : World) (hs : s.size ≤ maxLen) (h0 : 0 < s.size) :
    Calls Trym.prog 17 #[.string s] w fun e w' => e = .returned (.bool (adig s.data.toList)) ∧ w' = w := by
  unfold maxLen at hs
  have he : (s.toList.isEmpty) = false := by
    rw [Lib.toList_data]; cases h : s.data.toList with
    | nil => have := congrArg List.length h; rw [Array.length_toList, List.length_nil] at this; exact absurd this (Nat.ne_of_gt h0)
    | cons a t => rfl
  go_enter Trym.func17, Trym.ntmps17
  go_wp2
  go_loop [8] (fun i => ∃ k : Nat, k ≤ s.size ∧ i = .int .i64 k ∧ (s.data.toList.take k).all isDig = true) (fun i => s.size - (intOf i).toNat)
  case atStart => exact ⟨0, Nat.zero_le _, rfl, rfl⟩
  case round =>
    obtain ⟨k, hk, rfl, ha⟩ := hrel
    have HA : Hid ((s.data.toList.take k).all isDig = true) := ha
    clear ha
    by_cases hlt : k < s.size
    · by_cases c0 : (s[k].toNat : Int) < 48
      · go_wp2
        go_ret
        exact ⟨ret_bool (adig_no s k hlt (Or.inl c0)).symm, rfl⟩
      · by_cases c1 : 57 < (s[k].toNat : Int)
        · go_wp2
          go_ret
          exact ⟨ret_bool (adig_no s k hlt (Or.inr c1)).symm, rfl⟩
        · have HN : Hid ((s.data.toList.take (k + 1)).all isDig = true) := all_next s k hlt HA.out c0 c1
          go_wp2
          go_round
          case rel => exact ⟨k + 1, by omega, by go_num, HN.out⟩
          case measure => simp [intOf]; omega
    · obtain rfl : k = s.size := by omega
      go_wp2
      go_ret
      exact ⟨ret_bool (adig_yes s h0 HA.out).symm, rfl⟩

set_option maxHeartbeats 400000 in
theorem allDigits_none (w : World) :
    Calls Trym.prog 17 #[.string ByteArray.empty] w fun e w' => e = .returned (.bool false) ∧ w' = w := by
  go_enter Trym.func17, Trym.ntmps17
  go_wp2
  go_ret
  exact ⟨rfl, rfl⟩

theorem allDigits_any (s : ByteArray) (w : World) (hs : s.size ≤ maxLen) :
    Calls Trym.prog 17 #[.string s] w fun e w' => e = .returned (.bool (adig s.data.toList)) ∧ w' = w := by
  by_cases h : 0 < s.size
  · exact allDigits_some s w hs h
  · obtain rfl : s = ByteArray.empty := by
      obtain ⟨d⟩ := s
      have : d = #[] := Array.eq_empty_of_size_eq_zero (by simpa [ByteArray.size] using h)
      subst this; rfl
    exact allDigits_none w

theorem ZZallDigits_any (s : ByteArray) (w : World) (hs : s.size ≤ maxLen) :
    Calls Trym.prog 10 #[.string s] w fun e w' => e = .returned (.bool (adig s.data.toList)) ∧ w' = w := by
  go_enter Trym.func10, Trym.ntmps10
  go_wp2_with (go_at_call 17; refine (allDigits_any _ _ hs).mono ?_; rintro e w' ⟨rfl, rfl⟩)
  go_ret
  exact ⟨rfl, rfl⟩
end Go.Proofs.Qxb6617289aMods.Ad
