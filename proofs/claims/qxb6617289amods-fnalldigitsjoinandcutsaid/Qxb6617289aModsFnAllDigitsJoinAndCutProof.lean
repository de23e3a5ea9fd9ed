/- A proof of the given statement, over the shell that the kit's program wrote: the walk is filled in. -/
import Derived.Test.Qxb6617289aModsRows
import Derived.WalkKit
import Derived.ProofKit
import Derived.OpenShut
import Derived.ShutString
import Derived.Test.Qxb6617289aModsItoa
import Derived.Test.Qxb6617289aModsAllDigits
import Derived.Deep.QuietTactic
import Derived.Deep.RegionWith
import Derived.BigQuiet
import Derived.Lib.Strings
namespace Go.Proofs.Qxb6617289aMods.fnAllDigitsJoinAndCut
open Go.ChangeShapes Go.WideShapes Go.ChangeAt Go.RowKit
open Go.ChangeMaps (open_string shut_string)
set_option linter.unusedVariables false      -- a walk need not use every 'w<i>' (that an integer argument fits its kind)

theorem own : ownKnob Trym.prog.godebug = none := by kernel_rfl


open Dp

/-- decimal.allDigits of a string -/
def adB (s : ByteArray) : Bool := adig s.data.toList

theorem zz (s : ByteArray) (w : World) (hs : s.size ≤ maxLen) : Calls Trym.prog 10 #[.string s] w fun e w' => e = .returned (.bool (adB s)) ∧ w' = w := Ad.ZZallDigits_any s w hs

/-- what itoaU64 hands back -/
def Ito (d : ByteArray) : Prop := 0 < d.data.toList.length ∧ d.data.toList.all isDig = true

theorem ito (n : Nat) (hn : n < 18446744073709551616) (w : World) :
    Calls Trym.prog 9 #[.int .u64 n] w fun e w' => ∃ d : ByteArray, e = .returned (.string d) ∧ d.size ≤ 20 ∧ Ito d ∧ Grown w w' := by
  refine (It.itoa_any n hn w).mono ?_
  rintro e w1 ⟨l, rfl, h0, h1, h2, hg⟩
  exact ⟨⟨l.toArray⟩, rfl, by simpa [ByteArray.size] using h1, ⟨by simpa using h0, by simpa using all_digs h2⟩, hg⟩

theorem wf_u64 {a : Int} (h : (Lit.int .u64 a).wf = true) : ∃ n : Nat, a = n ∧ n < 18446744073709551616 := by
  have := bounds_u64 h
  exact ⟨a.toNat, by omega, by omega⟩

set_option maxHeartbeats 400000 in
theorem long (a0 : ByteArray) (a1 a2 : Int) (w0 : a0.size ≤ maxLen) (h : 65536 < a0.size) (w : World) :
    Calls Trym.prog 3 #[.string a0, .int .i64 a1, .int .u64 a2] w fun e w' => e = .returned (.bool true) ∧ Grown w w' := by
  unfold maxLen at w0
  by_cases h1 : 1048576 < a0.size
  · go_enter Trym.func3, Trym.ntmps3
    go_wp2
    go_ret
    exact ⟨rfl, Grown.refl _⟩
  · go_enter Trym.func3, Trym.ntmps3
    go_wp2
    go_ret
    exact ⟨rfl, Grown.refl _⟩

theorem zzb (a0 : ByteArray) (a1 a2 : Int) (h : a0.size ≤ 65536) (w : World) :
    Calls Trym.prog 8 #[.string a0, .int .i64 a1, .int .u64 a2] w fun e w' => e = .returned (.bool true) ∧ w' = w := by
  have h1 : ¬ 1048576 < (a0.size : Int) := by omega
  go_enter Trym.func8, Trym.ntmps8
  go_wp2
  go_ret
  exact ⟨rfl, rfl⟩

/-! ### the plain facts, on strings -/
theorem empty_list {s : ByteArray} (h : s.toList.isEmpty = true) : s.data.toList = [] := by
  rw [Lib.toList_data] at h; exact List.isEmpty_iff.1 h

theorem full_list {s : ByteArray} (h : s.toList.isEmpty = false) : s.data.toList ≠ [] := by
  rw [Lib.toList_data] at h; intro e; rw [e] at h; simp at h

theorem data_app (a b : ByteArray) : (a ++ b).data.toList = a.data.toList ++ b.data.toList := by
  simp

theorem ito_own {d : ByteArray} (h : Ito d) : adB d = true := adig_of h.1 h.2
theorem ito_front {d s : ByteArray} (h : Ito d) (hs : s.toList.isEmpty = false) : adB (d ++ s) = adB s := by
  unfold adB; rw [data_app, adig_front h.1 h.2, adig_ne (full_list hs)]
theorem ito_back {d s : ByteArray} (h : Ito d) (hs : s.toList.isEmpty = false) : adB (s ++ d) = adB s := by
  unfold adB; rw [data_app, adig_back h.1 h.2, adig_ne (full_list hs)]
theorem ito_front0 {d s : ByteArray} (h : Ito d) (hs : s.toList.isEmpty = true) : adB (d ++ s) = true := by
  unfold adB; rw [data_app, adig_front h.1 h.2, empty_list hs]; rfl
theorem ito_back0 {d s : ByteArray} (h : Ito d) (hs : s.toList.isEmpty = true) : adB (s ++ d) = true := by
  unfold adB; rw [data_app, adig_back h.1 h.2, empty_list hs]; rfl

theorem mid_dot (a b : ByteArray) : adB (a ++ ⟨#[46]⟩ ++ b) = false := by
  unfold adB; rw [data_app, data_app]; exact adig_mid _ _ 46 rfl
theorem mid_minus (a b : ByteArray) : adB (a ++ ⟨#[45]⟩ ++ b) = false := by
  unfold adB; rw [data_app, data_app]; exact adig_mid _ _ 45 rfl
theorem cut (s : ByteArray) (k : Nat) (h0 : 0 < k) (h1 : k < s.size) : adB s = (adB (s.extract 0 k) && adB (s.extract k s.size)) := by
  have e : s.data.toList.length = s.size := Array.length_toList
  have e1 : (s.extract 0 k).data.toList = s.data.toList.take k := by simp [ByteArray.data_extract]
  have e2 : (s.extract k s.size).data.toList = s.data.toList.drop k := by
    rw [ByteArray.data_extract, Array.toList_extract, List.extract_eq_take_drop, List.take_of_length_le]
    rw [List.length_drop, e]; omega
  unfold adB
  rw [e1, e2]
  exact adig_cut _ k h0 (by omega)

theorem size_app (a b : ByteArray) : (a ++ b).size = a.size + b.size := ByteArray.size_append

theorem BB {s : ByteArray} (h : s.size ≤ 200000) : s.size ≤ maxLen := by unfold maxLen; omega

set_option maxHeartbeats 400000 in
theorem outside (a0 : ByteArray) (a1 : Int) (n : Nat) (hn : n < 18446744073709551616) (h : a0.size ≤ 65536) (hi : a1 < 0 ∨ (a0.size : Int) < a1) (w : World) :
    Calls Trym.prog 3 #[.string a0, .int .i64 a1, .int .u64 n] w fun e w' => e = .returned (.bool true) ∧ Grown w w' := by
  have it := ito n hn w
  clear hn
  rcases hi with hi | hi <;> cases he : a0.toList.isEmpty
  all_goals
    go_enter Trym.func3, Trym.ntmps3
    go_wp2_with fail
    refine (zzb a0 a1 n h w).mono ?_
    rintro e w' ⟨rfl, rfl⟩
    go_wp2_with fail
    refine it.mono ?_
    rintro e w1 ⟨d, rfl, hd, hI, hg⟩
    have f0 := ito_own hI
    first | have f1 := ito_front hI he | have f1 := ito_front0 hI he
    first | have f2 := ito_back hI he | have f2 := ito_back0 hI he
    have hz : (d ++ a0).size ≤ 65600 := by rw [size_app]; omega
    have hz2 : (a0 ++ d).size ≤ 65600 := by rw [size_app]; omega
    go_wp2_with (go_at_call 10; refine (zz _ _ (BB (by omega))).mono ?_; rintro e w' ⟨rfl, rfl⟩)
    go_ret
    exact ⟨rfl, hg⟩

theorem add_run (a b : ByteArray) (h : a.size + b.size ≤ 200000) (w : World) : (Op.stringOp .add a b).run Trym.prog w = .ok (.string (a ++ b)) w :=
  run_string_add_sum (P := Trym.prog) (w := w) a b (by omega)

theorem size_ext (s : ByteArray) (i j : Nat) : (s.extract i j).size ≤ s.size := by simp; omega
theorem size_mid (s : ByteArray) (i j i' j' : Nat) (c : UInt8) : (s.extract i j ++ ⟨#[c]⟩ ++ s.extract i' j').size ≤ 2 * s.size + 1 := by
  have h1 := size_ext s i j
  have h2 := size_ext s i' j'
  have h3 : (⟨#[c]⟩ : ByteArray).size = 1 := rfl
  rw [size_app, size_app]; omega

theorem zz_is (s : ByteArray) (b : Bool) (h : adB s = b) (w : World) (hs : s.size ≤ maxLen) : Calls Trym.prog 10 #[.string s] w fun e w' => e = .returned (.bool b) ∧ w' = w := by
  subst h; exact zz s w hs

theorem grown_drewN {W w : World} (h : Grown W w) : ∀ n, Grown W (w.drewN n)
  | 0 => h
  | n + 1 => by exact Grown.drew (grown_drewN h n)

theorem dot_call (a0 : ByteArray) (k : Nat) (h : a0.size ≤ 65536) (w : World) :
    Calls Trym.prog 10 #[.string (a0.extract 0 k ++ ⟨#[46]⟩ ++ a0.extract k a0.size)] w fun e w' => e = .returned (.bool false) ∧ w' = w :=
  zz_is _ _ (mid_dot _ _) w (BB (by have := size_mid a0 0 k k a0.size 46; omega))
theorem minus_call (a0 : ByteArray) (k : Nat) (h : a0.size ≤ 65536) (w : World) :
    Calls Trym.prog 10 #[.string (a0.extract 0 k ++ ⟨#[45]⟩ ++ a0.extract k a0.size)] w fun e w' => e = .returned (.bool false) ∧ w' = w :=
  zz_is _ _ (mid_minus _ _) w (BB (by have := size_mid a0 0 k k a0.size 45; omega))

set_option maxHeartbeats 1000000 in
theorem edge (a0 : ByteArray) (k : Nat) (n : Nat) (hn : n < 18446744073709551616) (h : a0.size ≤ 65536) (hk : k = 0 ∨ k = a0.size) (w : World) :
    Calls Trym.prog 3 #[.string a0, .int .i64 k, .int .u64 n] w fun e w' => e = .returned (.bool true) ∧ Grown w w' := by
  have it := ito n hn w
  clear hn
  have HK : Hid (k = 0 ∨ k = a0.size) := hk
  have i3 : (k : Int) ≤ (a0.size : Int) := by omega
  clear hk
  have z1 := size_ext a0 0 k
  have z3 := size_mid a0 0 k k a0.size 46
  have z4 := size_mid a0 0 k k a0.size 45
  have r1 := add_run (a0.extract 0 k) ⟨#[46]⟩ (by have : (⟨#[46]⟩ : ByteArray).size = 1 := rfl; omega)
  have r2 := add_run (a0.extract 0 k) ⟨#[45]⟩ (by have : (⟨#[45]⟩ : ByteArray).size = 1 := rfl; omega)
  have r3 := add_run (a0.extract 0 k ++ ⟨#[46]⟩) (a0.extract k a0.size) (by rw [← size_app]; omega)
  have r4 := add_run (a0.extract 0 k ++ ⟨#[45]⟩) (a0.extract k a0.size) (by rw [← size_app]; omega)
  clear z1 z3 z4
  cases he : a0.toList.isEmpty
  all_goals
    go_enter Trym.func3, Trym.ntmps3
    go_wp2_with fail
    refine (zzb a0 k n h w).mono ?_
    rintro e w' ⟨rfl, rfl⟩
    go_wp2_with fail
    refine it.mono ?_
    rintro e w1 ⟨d, rfl, hd, hI, hg⟩
    have f0 := ito_own hI
    first | have f1 := ito_front hI he | have f1 := ito_front0 hI he
    first | have f2 := ito_back hI he | have f2 := ito_back0 hI he
    have hz : (d ++ a0).size ≤ 65600 := by rw [size_app]; omega
    have hz2 : (a0 ++ d).size ≤ 65600 := by rw [size_app]; omega
    go_wp2_with (go_at_call 10; refine (zz _ _ (BB (by omega))).mono ?_; rintro e w' ⟨rfl, rfl⟩)
    go_quiet ((go_at_call 10; exact Calls.quiet_of_same (dot_call _ _ h _)))
    go_wp2_with fail
    have hg2 := grown_drewN hg nq
    generalize World.drewN _ nq = wq at hg2 ⊢
    go_quiet ((go_at_call 10; exact Calls.quiet_of_same (minus_call _ _ h _)))
    go_wp2_with fail
    · exfalso
      have := HK.out
      omega
    · go_ret
      exact ⟨rfl, grown_drewN hg2 _⟩
    · go_ret
      exact ⟨rfl, grown_drewN hg2 _⟩

set_option maxHeartbeats 1000000 in
theorem inside (a0 : ByteArray) (k : Nat) (n : Nat) (hn : n < 18446744073709551616) (h : a0.size ≤ 65536) (hi : 0 < k) (hk : k < a0.size) (b1 b2 : Bool)
    (q1 : adB (a0.extract 0 k) = b1) (q2 : adB (a0.extract k a0.size) = b2) (q3 : adB a0 = (b1 && b2)) (w : World) :
    Calls Trym.prog 3 #[.string a0, .int .i64 k, .int .u64 n] w fun e w' => e = .returned (.bool true) ∧ Grown w w' := by
  have it := ito n hn w
  clear hn
  have i1 : (0 : Int) < (k : Int) := by omega
  have i2 : (k : Int) < (a0.size : Int) := by omega
  have i3 : (k : Int) ≤ (a0.size : Int) := by omega
  have he : a0.toList.isEmpty = false := by
    cases e : a0.toList.isEmpty
    · rfl
    · have := congrArg List.length (empty_list e); rw [Array.length_toList] at this; exact absurd this (Nat.ne_of_gt (Nat.lt_trans hi hk))
  have z1 := size_ext a0 0 k
  have z3 := size_mid a0 0 k k a0.size 46
  have z4 := size_mid a0 0 k k a0.size 45
  have r1 := add_run (a0.extract 0 k) ⟨#[46]⟩ (by have : (⟨#[46]⟩ : ByteArray).size = 1 := rfl; omega)
  have r2 := add_run (a0.extract 0 k) ⟨#[45]⟩ (by have : (⟨#[45]⟩ : ByteArray).size = 1 := rfl; omega)
  have r3 := add_run (a0.extract 0 k ++ ⟨#[46]⟩) (a0.extract k a0.size) (by rw [← size_app]; omega)
  have r4 := add_run (a0.extract 0 k ++ ⟨#[45]⟩) (a0.extract k a0.size) (by rw [← size_app]; omega)
  have c1 := fun w => zz_is a0 _ q3 w (BB (by omega))
  have c2 := fun w => zz_is (a0.extract 0 k) _ q1 w (BB (by omega))
  have c3 := fun w => zz_is (a0.extract k a0.size) _ q2 w (BB (by have := size_ext a0 k a0.size; omega))
  have HC1 : Hid (∀ w, _) := c1
  have HC2 : Hid (∀ w, _) := c2
  have HC3 : Hid (∀ w, _) := c3
  clear z1 z3 z4 c1 c2 c3 q1 q2
  go_enter Trym.func3, Trym.ntmps3
  go_wp2_with fail
  refine (zzb a0 k n h w).mono ?_
  rintro e w' ⟨rfl, rfl⟩
  go_wp2_with fail
  refine it.mono ?_
  rintro e w1 ⟨d, rfl, hd, hI, hg⟩
  have f0 := ito_own hI
  have f1 := ito_front hI he
  have f2 := ito_back hI he
  have hz : (d ++ a0).size ≤ 65600 := by rw [size_app]; omega
  have hz2 : (a0 ++ d).size ≤ 65600 := by rw [size_app]; omega
  go_wp2_with (go_at_call 10; refine (zz _ _ (BB (by omega))).mono ?_; rintro e w' ⟨rfl, rfl⟩)
  go_quiet ((go_at_call 10; exact Calls.quiet_of_same (dot_call _ _ h _)))
  go_wp2_with fail
  have hg2 := grown_drewN hg nq
  generalize World.drewN _ nq = wq at hg2 ⊢
  go_quiet ((go_at_call 10; exact Calls.quiet_of_same (minus_call _ _ h _)))
  go_wp2_with fail
  have hg3 := grown_drewN hg2 nq
  generalize World.drewN _ nq = wq2 at hg3 ⊢
  cases b1 <;> cases b2
  all_goals
    go_quiet (first | (go_at_call_of 10 (Value.string a0); exact Calls.quiet_of_same (HC1.out _)) | (go_at_call_of 10 (Value.string (a0.extract 0 k)); exact Calls.quiet_of_same (HC2.out _)) | (go_at_call_of 10 (Value.string (a0.extract k a0.size)); exact Calls.quiet_of_same (HC3.out _)))
    go_wp2_with fail
    go_ret
    exact ⟨rfl, grown_drewN hg3 _⟩

/-! ### STEP 1: THE WALK: the Go text returns true. 'Grown w w'': the world has at most new blocks (Derived/RowKit3.lean). Part the cases AHEAD of 'go_enter' where a test parts the walk; take each callee by a contract of your own. -/
theorem walk (a0 : ByteArray) (a1 : Int) (a2 : Int) (w0 : a0.size ≤ maxLen) (w1 : (Lit.int .i64 a1).wf = true) (w2 : (Lit.int .u64 a2).wf = true) (w : World) :
    Calls Trym.prog 3 #[.string a0, .int .i64 a1, .int .u64 a2] w fun e w' => e = .returned (.bool true) ∧ Grown w w' := by
  obtain ⟨n, rfl, hn⟩ := wf_u64 w2
  by_cases h : 65536 < a0.size
  · exact long a0 a1 n w0 h w
  · have h' : a0.size ≤ 65536 := by omega
    by_cases hi : a1 < 0 ∨ (a0.size : Int) < a1
    · exact outside a0 a1 n hn h' hi w
    · obtain ⟨k, rfl⟩ : ∃ k : Nat, a1 = k := ⟨a1.toNat, by omega⟩
      by_cases hk : k = 0 ∨ k = a0.size
      · exact edge a0 k n hn h' hk w
      · exact inside a0 k n hn h' (by omega) (by omega) _ _ rfl rfl (cut a0 k (by omega) (by omega)) w

/-! ### THE ROW's STEP: WRITTEN OUT: LEAVE IT -/
set_option maxRecDepth 100000 in
theorem lifted (os : Os) (started : os.Started) (H : Type) (enc : TypeId × Value → H) :
    ReturnsInHanded {} Trym.checked os 3 .any (Rows.fnAllDigitsJoinAndCutSpec.pre6 enc Trym.prog Trym.f3 Rows.fnAllDigitsJoinAndCutRow.domain false) (Rows.fnAllDigitsJoinAndCutSpec.post enc Trym.prog Trym.f3 false true false false) := by
  refine returnsInHanded_of_change (C := Trym.checked) own started (by kernel_rfl) Trym.func3
    (ChangeSpec.witness6 (enc := enc) (C := Trym.checked) false ⟨#[], #[.string ByteArray.empty, .int .i64 0, .int .u64 0], []⟩ 8 (by kernel_rfl) (by kernel_rfl) (by kernel_rfl) (by kernel_rfl)) ?_
  intro W base args ds gs before hval0 hW hcnd _
  have hval : ∀ (j : Nat) t v, Trym.f3.params[j]? = some t → args[j]? = some v → Value.okWide Trym.prog W .any base t v := hval0
  have hW' := hW
  obtain ⟨p, q, hA0, hV, rfl, hfz, hnd⟩ := hW
  have hA : DataW.TrodAll enc Trym.prog W 0 (fun _ => true) true Trym.f3.params.toList args.toList ds p := hA0
  rw [Trym.params3] at hA hval
  obtain ⟨v0, vs0, d0, ds0, p0, q0, hargs, rfl, rfl, h0, r0⟩ := trodAll_cons hA
  obtain ⟨v1, vs1, d1, ds1, p1, q1, rfl, rfl, rfl, h1, r1⟩ := trodAll_cons r0
  obtain ⟨v2, vs2, d2, ds2, p2, q2, rfl, rfl, rfl, h2, r2⟩ := trodAll_cons r1
  obtain ⟨rfl, rfl, rfl⟩ := trodAll_nil r2
  obtain rfl : args = #[v0, v1, v2] := by cases args; simp_all
  obtain ⟨rfl, rfl⟩ := trodVars_none hV
  obtain ⟨a0, rfl, rfl, rfl, w0⟩ := open_string Trym.underlying9 (hval 0 9 v0 rfl rfl) h0
  obtain ⟨a1, rfl, rfl, rfl, w1⟩ := open_int Trym.underlying3 (hval 1 3 v1 rfl rfl) h1
  obtain ⟨a2, rfl, rfl, rfl, w2⟩ := open_int Trym.underlying22 (hval 2 22 v2 rfl rfl) h2
  clear hA0 hval0
  simp only [List.append_nil] at hW'
  refine (walk a0 a1 a2 w0 w1 w2 W).mono fun e W' ⟨he, hg⟩ => ?_
  subst he
  exact ⟨_, rfl, post_of_same (pa := []) (pv := []) hW' (fun _ _ _ => (trodAll_cons_mk (shut_bool Trym.underlying4 _) trodAll_mk0)) (fun sp _ => (trodAll_cons_mk (shut_string Trym.underlying9 w0) (trodAll_cons_mk (shut_int Trym.underlying3 w1) (trodAll_cons_mk (shut_int Trym.underlying22 w2) trodAll_mk0)))) (fun _ _ => rfl) rfl
    (hg.frame _) hg.2.1 (ok_one (by kernel_rfl) rfl (okWide_bool_mk Trym.underlying4 _))⟩

theorem over : Rows.fnAllDigitsJoinAndCutRow.holds Trym.pinned (OpenSpec.ofChange Rows.fnAllDigitsJoinAndCutSpec) :=
  OpenClaim.holds_of_wide 3 Trym.f3 rfl rfl rfl rfl rfl rfl rfl ⟨rfl, rfl, rfl, rfl, rfl⟩ rfl rfl rfl rfl rfl (by kernel_rfl) Trym.func3 (by kernel_rfl)
    (of_decide_eq_true (by kernel_rfl)) (by unfold Func.isWrapper; first | (rw [if_pos (by decide +kernel)]; kernel_rfl) | (rw [if_neg (by decide +kernel)]; exact ⟨rfl, rfl⟩))
    (fun os started H enc _ => lifted os started H enc)

/-- ████ THE STATEMENT ████ -/
theorem proved : Rows.FnAllDigitsJoinAndCutSaid :=
  over
#print axioms proved
end Go.Proofs.Qxb6617289aMods.fnAllDigitsJoinAndCut
