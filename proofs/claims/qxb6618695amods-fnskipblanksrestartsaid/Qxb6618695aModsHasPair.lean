import Derived.Test.Qxb6618695aModsRows
import Derived.Test.Qxb6618695aModsSkipPlain
import Derived.WalkKit
import Derived.ProofKit
import Derived.Lib.Strings
namespace Go.Proofs.Qxb6618695aMods.Hp
open Go.ChangeShapes Go.WideShapes Go.ChangeAt Go.RowKit

/-- the byte at place i -/
def byt (s : ByteArray) (i : Nat) : Nat := (s.data.toList[i]?.getD 0).toNat

theorem byt_at (s : ByteArray) (i : Nat) (h : i < s.size) : byt s i = s[i].toNat := by
  unfold byt
  rw [List.getElem?_eq_getElem (by simpa using h)]
  rfl

/-- strings.HasPrefix(t, backslash newline) -/
def hpB (t : ByteArray) : Bool := decide (2 ≤ t.size) && ((t.extract 0 2).toList == [92, 10])

set_option maxHeartbeats 400000 in
theorem inner_short (t : ByteArray) (w : World) (h : t.size < 2) :
    Calls Trym.prog 19 #[.string t, .string ⟨#[92, 10]⟩] w fun e w' => e = .returned (.bool false) ∧ w' = w := by
  go_enter Trym.func19, Trym.ntmps19
  go_wp2
  go_ret
  exact ⟨rfl, rfl⟩

set_option maxHeartbeats 400000 in
theorem inner_long (t : ByteArray) (w : World) (hs : t.size ≤ maxLen) (h : 2 ≤ t.size) :
    Calls Trym.prog 19 #[.string t, .string ⟨#[92, 10]⟩] w fun e w' => e = .returned (.bool ((t.extract 0 2).toList == [92, 10])) ∧ w' = w := by
  unfold maxLen at hs
  go_enter Trym.func19, Trym.ntmps19
  go_wp2
  go_ret
  exact ⟨rfl, rfl⟩

theorem hp (t : ByteArray) (w : World) (hs : t.size ≤ maxLen) :
    Calls Trym.prog 17 #[.string t, .string ⟨#[92, 10]⟩] w fun e w' => e = .returned (.bool (hpB t)) ∧ w' = w := by
  have inner : Calls Trym.prog 19 #[.string t, .string ⟨#[92, 10]⟩] w fun e w' => e = .returned (.bool (hpB t)) ∧ w' = w := by
    by_cases h : 2 ≤ t.size
    · have := inner_long t w hs h
      unfold hpB; rw [decide_eq_true h, Bool.true_and]; exact this
    · have := inner_short t w (by omega)
      unfold hpB; rw [decide_eq_false h, Bool.false_and]; exact this
  go_enter Trym.func17, Trym.ntmps17
  go_wp2_with fail
  refine inner.mono ?_
  rintro e w' ⟨rfl, rfl⟩
  go_wp2
  go_ret
  exact ⟨rfl, rfl⟩

theorem size_from (s : ByteArray) (k : Nat) : (s.extract k s.size).size = s.size - k := by simp

theorem two_from (s : ByteArray) (k : Nat) (h : k + 1 < s.size) : ((s.extract k s.size).extract 0 2).toList = [s[k], s[k + 1]] := by
  rw [Lib.toList_data]
  have e : s.data.toList.length = s.size := Array.length_toList
  have e1 : ((s.extract k s.size).extract 0 2).data.toList = (s.data.toList.drop k).take 2 := by
    rw [ByteArray.data_extract, Array.toList_extract, List.extract_eq_take_drop, ByteArray.data_extract, Array.toList_extract, List.extract_eq_take_drop,
      List.take_of_length_le (i := s.size - k) (by rw [List.length_drop, e]; omega)]
    rfl
  rw [e1, List.drop_eq_getElem_cons (by omega), List.drop_eq_getElem_cons (by omega)]
  rfl

theorem hpB_yes (s : ByteArray) (k : Nat) (h : k + 1 < s.size) (h1 : byt s k = 92) (h2 : byt s (k + 1) = 10) : hpB (s.extract k s.size) = true := by
  unfold hpB
  rw [two_from s k h, decide_eq_true (by rw [size_from]; omega), Bool.true_and]
  rw [byt_at s k (by omega)] at h1
  rw [byt_at s (k + 1) h] at h2
  have e1 : s[k] = 92 := UInt8.toNat_inj.1 h1
  have e2 : s[k + 1] = 10 := UInt8.toNat_inj.1 h2
  rw [e1, e2]; rfl

theorem hpB_no (s : ByteArray) (k : Nat) (h : ¬ (byt s k = 92 ∧ k + 1 < s.size ∧ byt s (k + 1) = 10)) : hpB (s.extract k s.size) = false := by
  unfold hpB
  by_cases hk : k + 1 < s.size
  · rw [two_from s k hk]
    rw [byt_at s k (by omega), byt_at s (k + 1) hk] at h
    have : ([s[k], s[k + 1]] == [92, 10]) = false := by
      rw [Bool.eq_false_iff]
      intro hh
      have hh := eq_of_beq hh
      simp only [List.cons.injEq, and_true] at hh
      exact h ⟨by rw [hh.1]; rfl, hk, by rw [hh.2]; rfl⟩
    rw [this, Bool.and_false]
  · rw [decide_eq_false (by rw [size_from]; omega), Bool.false_and]
end Go.Proofs.Qxb6618695aMods.Hp
