/- A proof of the given statement, over the shell that the kit's program wrote: the walk is filled in. -/
import Derived.Test.Qxb6618695aModsRows
import Derived.WalkKit
import Derived.ProofKit
import Derived.OpenShut
import Derived.ShutString
import Derived.Test.Qxb6618695aModsSkip
import Derived.Deep.CutRange
namespace Go.Proofs.Qxb6618695aMods.fnSkipBlanksRestart
open Go.ChangeShapes Go.WideShapes Go.ChangeAt Go.RowKit
open Go.ChangeMaps (open_string shut_string)
set_option linter.unusedVariables false      -- a walk need not use every 'w<i>' (that an integer argument fits its kind)

theorem own : ownKnob Trym.prog.godebug = none := by kernel_rfl


open Hp

theorem grown_trans {a b c : World} (h : Grown a b) (g : Grown b c) : Grown a c :=
  ⟨World.keptBut_trans h.1 g.1, fun x => (g.2.1 x).trans (h.2.1 x), Nat.le_trans h.2.2 g.2.2⟩

set_option maxHeartbeats 400000 in
theorem long (a0 : ByteArray) (a1 a2 : Int) (h : 1048576 < (a0.size : Int)) (w0 : a0.size ≤ maxLen) (w : World) :
    Calls Trym.prog 4 #[.string a0, .int .i64 a1, .int .i64 a2] w fun e w' => e = .returned (.bool true) ∧ Grown w w' := by
  unfold maxLen at w0
  go_enter Trym.func4, Trym.ntmps4
  go_wp2
  go_ret
  exact ⟨rfl, Grown.refl _⟩

theorem zzb (a0 : ByteArray) (a1 a2 : Int) (h : a0.size ≤ 1048576) (w : World) :
    Calls Trym.prog 9 #[.string a0, .int .i64 a1, .int .i64 a2] w fun e w' => e = .returned (.bool true) ∧ w' = w := by
  have h1 : ¬ 1048576 < (a0.size : Int) := by omega
  go_enter Trym.func9, Trym.ntmps9
  go_wp2
  go_ret
  exact ⟨rfl, rfl⟩

set_option maxHeartbeats 400000 in
theorem outside (a0 : ByteArray) (a1 a2 : Int) (h : a0.size ≤ 1048576) (hi : a1 < 0 ∨ (a0.size : Int) < a1 ∨ a2 < a1 ∨ (a0.size : Int) < a2) (w : World) :
    Calls Trym.prog 4 #[.string a0, .int .i64 a1, .int .i64 a2] w fun e w' => e = .returned (.bool true) ∧ Grown w w' := by
  have h1 : ¬ 1048576 < (a0.size : Int) := by omega
  by_cases c1 : a1 < 0
  · go_enter Trym.func4, Trym.ntmps4
    go_wp2
    go_ret
    exact ⟨rfl, Grown.refl _⟩
  · by_cases c2 : (a0.size : Int) < a1
    · go_enter Trym.func4, Trym.ntmps4
      go_wp2
      go_ret
      exact ⟨rfl, Grown.refl _⟩
    · by_cases c3 : a2 < a1
      · go_enter Trym.func4, Trym.ntmps4
        go_wp2
        go_ret
        exact ⟨rfl, Grown.refl _⟩
      · have c4 : (a0.size : Int) < a2 := by omega
        go_enter Trym.func4, Trym.ntmps4
        go_wp2
        go_ret
        exact ⟨rfl, Grown.refl _⟩

/-- what is known of the stretch from p to R -/
def In (s : ByteArray) (p R : Nat) : Prop := ∀ i, p ≤ i → i < R →
    (byt s i = 92 → i + 1 < R ∧ byt s (i + 1) = 10) ∧ (byt s i = 10 → p < i ∧ byt s (i - 1) = 92) ∧ (byt s i = 92 ∨ byt s i = 10 ∨ byt s i = 32 ∨ byt s i = 9)

/-- what is known of the place R -/
def At (s : ByteArray) (R : Nat) : Prop := R < s.size → byt s R ≠ 32 ∧ byt s R ≠ 9 ∧ ¬ (byt s R = 92 ∧ R + 1 < s.size ∧ byt s (R + 1) = 10)

theorem e_true (s : ByteArray) (i : Nat) (h : i < s.size) (n : Nat) (v : Int) (hv : v = (n : Int)) (hb : byt s i = n) : ((s[i].toNat : Int) == v) = true := by
  rw [← byt_at s i h, hb, hv]; simp
theorem e_false (s : ByteArray) (i : Nat) (h : i < s.size) (n : Nat) (v : Int) (hv : v = (n : Int)) (hb : byt s i ≠ n) : ((s[i].toNat : Int) == v) = false := by
  rw [← byt_at s i h, hv]; simp; omega
theorem n_false (s : ByteArray) (i : Nat) (h : i < s.size) (n : Nat) (v : Int) (hv : v = (n : Int)) (hb : byt s i = n) : ((s[i].toNat : Int) != v) = false := by
  rw [← byt_at s i h, hb, hv]; simp
theorem n_true (s : ByteArray) (i : Nat) (h : i < s.size) (n : Nat) (v : Int) (hv : v = (n : Int)) (hb : byt s i ≠ n) : ((s[i].toNat : Int) != v) = true := by
  rw [← byt_at s i h, hv]; simp; omega

set_option maxRecDepth 100000 in
set_option maxHeartbeats 1000000 in
theorem core1 (s : ByteArray) (p j R S : Nat) (hs : s.size ≤ 1048576) (h1 : p ≤ j) (h2 : j ≤ s.size) (hR0 : p ≤ R) (hR : R ≤ s.size) (hin : Hid (In s p R)) (hat : Hid (At s R))
    (cR : Hid (∀ w, Calls Trym.prog 8 #[.string s, .int .i64 p] w fun e w' => e = .returned (.int .i64 R) ∧ Grown w w'))
    (cS : Hid (∀ w, Calls Trym.prog 8 #[.string s, .int .i64 j] w fun e w' => e = .returned (.int .i64 S) ∧ Grown w w'))
    (hd : R < j) (hS0 : j ≤ S) (hS1 : S ≤ s.size) (w : World) :
    Calls Trym.prog 4 #[.string s, .int .i64 p, .int .i64 j] w fun e w' => e = .returned (.bool true) ∧ Grown w w' := by
  have j1 : ¬ 1048576 < (s.size : Int) := by omega
  go_enter Trym.func4, Trym.ntmps4
  go_wp2_with fail
  refine (zzb s p _ hs w).mono ?_
  rintro e w' ⟨rfl, rfl⟩
  go_wp2_with fail
  refine (cR.out _).mono ?_
  rintro e w1 ⟨rfl, g1⟩
  go_upto_if 54 with fail
  go_cut [] from 12 to 79 (fun wx => wx = w1)
  case first =>
    by_cases e1 : R < s.size
    · have ha := hat.out e1
      have t1 := e_false s R e1 32 32 rfl ha.1
      have t2 := e_false s R e1 9 9 rfl ha.2.1
      by_cases e2 : byt s R = 92
      · have t3 := e_true s R e1 92 92 rfl e2
        by_cases e3 : R + 1 < s.size
        · have t4 := e_false s (R + 1) e3 10 10 rfl (fun h => ha.2.2 ⟨e2, e3, h⟩)
          clear ha e2
          go_wp2
          go_meet
          case rel => trivial
        · clear ha e2
          go_wp2
          go_meet
          case rel => trivial
      · have t3 := e_false s R e1 92 92 rfl e2
        clear ha e2
        go_wp2
        go_meet
        case rel => trivial
    · go_wp2
  case rest =>
    subst hcut
    go_wp2_with fail
    go_loop [9] (fun v => ∃ m : Nat, p ≤ m ∧ m ≤ R ∧ v = .int .i64 m) (fun v => R - (intOf v).toNat)
    case atStart => exact ⟨p, Nat.le_refl _, hR0, rfl⟩
    case round =>
      obtain ⟨m, m1, m2, rfl⟩ := hrel
      by_cases hlt : m < R
      · have hm := hin.out m m1 hlt
        have hz : m < s.size := by omega
        by_cases b1 : byt s m = 92
        · have hm2 := hm.1 b1
          have hz2 : m + 1 < s.size := by omega
          have hr2 : m + 1 < R := hm2.1
          have t1 := e_true s m hz 92 92 rfl b1
          have t2 := n_false s (m + 1) hz2 10 10 rfl hm2.2
          clear hm hm2 b1
          go_wp2
          go_round
          case rel => exact ⟨m + 1, by omega, by omega, by go_num⟩
          case measure => simp [intOf]; omega
        · have t1 := e_false s m hz 92 92 rfl b1
          by_cases b2 : byt s m = 10
          · obtain ⟨q1, q2⟩ := hm.2.1 b2
            obtain ⟨m', rfl⟩ : ∃ m', m = m' + 1 := ⟨m - 1, by omega⟩
            have hz3 : m' < s.size := by omega
            have t2 := e_true s (m' + 1) hz 10 10 rfl b2
            have t3 := n_false s m' hz3 92 92 rfl (by simpa using q2)
            have t4 : ((m' : Int) + 1 == (p : Int)) = false := by simp; omega
            clear hm q2 b1 b2
            go_wp2
            go_round
            case rel => exact ⟨m' + 1 + 1, by omega, by omega, by go_num⟩
            case measure => simp [intOf]; omega
          · have t2 := e_false s m hz 10 10 rfl b2
            by_cases b3 : byt s m = 32
            · have t3 := n_false s m hz 32 32 rfl b3
              clear hm b1 b2 b3
              go_wp2
              go_round
              case rel => exact ⟨m + 1, by omega, by omega, by go_num⟩
              case measure => simp [intOf]; omega
            · have t3 := n_true s m hz 32 32 rfl b3
              have t4 := n_false s m hz 9 9 rfl (by omega)
              clear hm b1 b2 b3
              go_wp2
              go_round
              case rel => exact ⟨m + 1, by omega, by omega, by go_num⟩
              case measure => simp [intOf]; omega
      · go_wp2_with fail
        refine (cS.out _).mono ?_
        rintro e w2 ⟨rfl, g2⟩
        go_wp2
        go_ret
        exact ⟨rfl, grown_trans g1 g2⟩

set_option maxRecDepth 100000 in
set_option maxHeartbeats 1000000 in
theorem core2 (s : ByteArray) (p j R : Nat) (hs : s.size ≤ 1048576) (hR0 : p ≤ R) (hR : R ≤ s.size) (hin : Hid (In s p R)) (hat : Hid (At s R))
    (cR : Hid (∀ w, Calls Trym.prog 8 #[.string s, .int .i64 p] w fun e w' => e = .returned (.int .i64 R) ∧ Grown w w'))
    (cS : Hid (∀ w, Calls Trym.prog 8 #[.string s, .int .i64 ((j : Int) + 1)] w fun e w' => e = .returned (.int .i64 ((j : Int) + 1)) ∧ Grown w w'))
    (h1 : p ≤ j) (hd : j + 1 ≤ R) (hb : Hid (byt s j = 92)) (w : World) :
    Calls Trym.prog 4 #[.string s, .int .i64 p, .int .i64 ((j : Int) + 1)] w fun e w' => e = .returned (.bool true) ∧ Grown w w' := by
  have j1 : ¬ 1048576 < (s.size : Int) := by omega
  go_enter Trym.func4, Trym.ntmps4
  go_wp2_with fail
  refine (zzb s p _ hs w).mono ?_
  rintro e w' ⟨rfl, rfl⟩
  go_wp2_with fail
  refine (cR.out _).mono ?_
  rintro e w1 ⟨rfl, g1⟩
  go_upto_if 54 with fail
  go_cut [] from 12 to 79 (fun wx => wx = w1)
  case first =>
    by_cases e1 : R < s.size
    · have ha := hat.out e1
      have t1 := e_false s R e1 32 32 rfl ha.1
      have t2 := e_false s R e1 9 9 rfl ha.2.1
      by_cases e2 : byt s R = 92
      · have t3 := e_true s R e1 92 92 rfl e2
        by_cases e3 : R + 1 < s.size
        · have t4 := e_false s (R + 1) e3 10 10 rfl (fun h => ha.2.2 ⟨e2, e3, h⟩)
          clear ha e2
          go_wp2
          go_meet
          case rel => trivial
        · clear ha e2
          go_wp2
          go_meet
          case rel => trivial
      · have t3 := e_false s R e1 92 92 rfl e2
        clear ha e2
        go_wp2
        go_meet
        case rel => trivial
    · go_wp2
      go_meet
      case rel => trivial
  case rest =>
    subst hcut
    go_wp2_with fail
    go_loop [9] (fun v => ∃ m : Nat, p ≤ m ∧ m ≤ R ∧ v = .int .i64 m) (fun v => R - (intOf v).toNat)
    case atStart => exact ⟨p, Nat.le_refl _, hR0, rfl⟩
    case round =>
      obtain ⟨m, m1, m2, rfl⟩ := hrel
      by_cases hlt : m < R
      · have hm := hin.out m m1 hlt
        have hz : m < s.size := by omega
        by_cases b1 : byt s m = 92
        · have hm2 := hm.1 b1
          have hz2 : m + 1 < s.size := by omega
          have hr2 : m + 1 < R := hm2.1
          have t1 := e_true s m hz 92 92 rfl b1
          have t2 := n_false s (m + 1) hz2 10 10 rfl hm2.2
          clear hm hm2 b1
          go_wp2
          go_round
          case rel => exact ⟨m + 1, by omega, by omega, by go_num⟩
          case measure => simp [intOf]; omega
        · have t1 := e_false s m hz 92 92 rfl b1
          by_cases b2 : byt s m = 10
          · obtain ⟨q1, q2⟩ := hm.2.1 b2
            obtain ⟨m', rfl⟩ : ∃ m', m = m' + 1 := ⟨m - 1, by omega⟩
            have hz3 : m' < s.size := by omega
            have t2 := e_true s (m' + 1) hz 10 10 rfl b2
            have t3 := n_false s m' hz3 92 92 rfl (by simpa using q2)
            have t4 : ((m' : Int) + 1 == (p : Int)) = false := by simp; omega
            clear hm q2 b1 b2
            go_wp2
            go_round
            case rel => exact ⟨m' + 1 + 1, by omega, by omega, by go_num⟩
            case measure => simp [intOf]; omega
          · have t2 := e_false s m hz 10 10 rfl b2
            by_cases b3 : byt s m = 32
            · have t3 := n_false s m hz 32 32 rfl b3
              clear hm b1 b2 b3
              go_wp2
              go_round
              case rel => exact ⟨m + 1, by omega, by omega, by go_num⟩
              case measure => simp [intOf]; omega
            · have t3 := n_true s m hz 32 32 rfl b3
              have t4 := n_false s m hz 9 9 rfl (by omega)
              clear hm b1 b2 b3
              go_wp2
              go_round
              case rel => exact ⟨m + 1, by omega, by omega, by go_num⟩
              case measure => simp [intOf]; omega
      · have hj : j < s.size := by omega
        have t0 := e_true s j hj 92 92 rfl hb.out
        go_wp2_with fail
        refine (cS.out _).mono ?_
        rintro e w2 ⟨rfl, g2⟩
        go_wp2
        go_ret
        exact ⟨rfl, grown_trans g1 g2⟩

set_option maxRecDepth 100000 in
set_option maxHeartbeats 1000000 in
theorem core3 (s : ByteArray) (p j R : Nat) (hs : s.size ≤ 1048576) (hR0 : p ≤ R) (hR : R ≤ s.size) (hin : Hid (In s p R)) (hat : Hid (At s R))
    (cR : Hid (∀ w, Calls Trym.prog 8 #[.string s, .int .i64 p] w fun e w' => e = .returned (.int .i64 R) ∧ Grown w w'))
    (cS : Hid (∀ w, Calls Trym.prog 8 #[.string s, .int .i64 ((j : Int) + 1)] w fun e w' => e = .returned (.int .i64 R) ∧ Grown w w'))
    (h1 : p ≤ j) (hd : j + 1 ≤ R) (hb : Hid (byt s j ≠ 92)) (w : World) :
    Calls Trym.prog 4 #[.string s, .int .i64 p, .int .i64 ((j : Int) + 1)] w fun e w' => e = .returned (.bool true) ∧ Grown w w' := by
  have j1 : ¬ 1048576 < (s.size : Int) := by omega
  go_enter Trym.func4, Trym.ntmps4
  go_wp2_with fail
  refine (zzb s p _ hs w).mono ?_
  rintro e w' ⟨rfl, rfl⟩
  go_wp2_with fail
  refine (cR.out _).mono ?_
  rintro e w1 ⟨rfl, g1⟩
  go_upto_if 54 with fail
  go_cut [] from 12 to 79 (fun wx => wx = w1)
  case first =>
    by_cases e1 : R < s.size
    · have ha := hat.out e1
      have t1 := e_false s R e1 32 32 rfl ha.1
      have t2 := e_false s R e1 9 9 rfl ha.2.1
      by_cases e2 : byt s R = 92
      · have t3 := e_true s R e1 92 92 rfl e2
        by_cases e3 : R + 1 < s.size
        · have t4 := e_false s (R + 1) e3 10 10 rfl (fun h => ha.2.2 ⟨e2, e3, h⟩)
          clear ha e2
          go_wp2
          go_meet
          case rel => trivial
        · clear ha e2
          go_wp2
          go_meet
          case rel => trivial
      · have t3 := e_false s R e1 92 92 rfl e2
        clear ha e2
        go_wp2
        go_meet
        case rel => trivial
    · go_wp2
      go_meet
      case rel => trivial
  case rest =>
    subst hcut
    go_wp2_with fail
    go_loop [9] (fun v => ∃ m : Nat, p ≤ m ∧ m ≤ R ∧ v = .int .i64 m) (fun v => R - (intOf v).toNat)
    case atStart => exact ⟨p, Nat.le_refl _, hR0, rfl⟩
    case round =>
      obtain ⟨m, m1, m2, rfl⟩ := hrel
      by_cases hlt : m < R
      · have hm := hin.out m m1 hlt
        have hz : m < s.size := by omega
        by_cases b1 : byt s m = 92
        · have hm2 := hm.1 b1
          have hz2 : m + 1 < s.size := by omega
          have hr2 : m + 1 < R := hm2.1
          have t1 := e_true s m hz 92 92 rfl b1
          have t2 := n_false s (m + 1) hz2 10 10 rfl hm2.2
          clear hm hm2 b1
          go_wp2
          go_round
          case rel => exact ⟨m + 1, by omega, by omega, by go_num⟩
          case measure => simp [intOf]; omega
        · have t1 := e_false s m hz 92 92 rfl b1
          by_cases b2 : byt s m = 10
          · obtain ⟨q1, q2⟩ := hm.2.1 b2
            obtain ⟨m', rfl⟩ : ∃ m', m = m' + 1 := ⟨m - 1, by omega⟩
            have hz3 : m' < s.size := by omega
            have t2 := e_true s (m' + 1) hz 10 10 rfl b2
            have t3 := n_false s m' hz3 92 92 rfl (by simpa using q2)
            have t4 : ((m' : Int) + 1 == (p : Int)) = false := by simp; omega
            clear hm q2 b1 b2
            go_wp2
            go_round
            case rel => exact ⟨m' + 1 + 1, by omega, by omega, by go_num⟩
            case measure => simp [intOf]; omega
          · have t2 := e_false s m hz 10 10 rfl b2
            by_cases b3 : byt s m = 32
            · have t3 := n_false s m hz 32 32 rfl b3
              clear hm b1 b2 b3
              go_wp2
              go_round
              case rel => exact ⟨m + 1, by omega, by omega, by go_num⟩
              case measure => simp [intOf]; omega
            · have t3 := n_true s m hz 32 32 rfl b3
              have t4 := n_false s m hz 9 9 rfl (by omega)
              clear hm b1 b2 b3
              go_wp2
              go_round
              case rel => exact ⟨m + 1, by omega, by omega, by go_num⟩
              case measure => simp [intOf]; omega
      · have hj : j < s.size := by omega
        have t0 := e_false s j hj 92 92 rfl hb.out
        go_wp2_with fail
        refine (cS.out _).mono ?_
        rintro e w2 ⟨rfl, g2⟩
        go_wp2
        go_ret
        exact ⟨rfl, grown_trans g1 g2⟩

set_option maxRecDepth 100000 in
set_option maxHeartbeats 1000000 in
theorem core4 (s : ByteArray) (p R : Nat) (hs : s.size ≤ 1048576) (hR0 : p ≤ R) (hR : R ≤ s.size) (hin : Hid (In s p R)) (hat : Hid (At s R))
    (cR : Hid (∀ w, Calls Trym.prog 8 #[.string s, .int .i64 p] w fun e w' => e = .returned (.int .i64 R) ∧ Grown w w'))
    (cS : Hid (∀ w, Calls Trym.prog 8 #[.string s, .int .i64 p] w fun e w' => e = .returned (.int .i64 R) ∧ Grown w w'))
    (h2 : p ≤ s.size) (w : World) :
    Calls Trym.prog 4 #[.string s, .int .i64 p, .int .i64 p] w fun e w' => e = .returned (.bool true) ∧ Grown w w' := by
  have j1 : ¬ 1048576 < (s.size : Int) := by omega
  go_enter Trym.func4, Trym.ntmps4
  go_wp2_with fail
  refine (zzb s p _ hs w).mono ?_
  rintro e w' ⟨rfl, rfl⟩
  go_wp2_with fail
  refine (cR.out _).mono ?_
  rintro e w1 ⟨rfl, g1⟩
  go_upto_if 54 with fail
  go_cut [] from 12 to 79 (fun wx => wx = w1)
  case first =>
    by_cases e1 : R < s.size
    · have ha := hat.out e1
      have t1 := e_false s R e1 32 32 rfl ha.1
      have t2 := e_false s R e1 9 9 rfl ha.2.1
      by_cases e2 : byt s R = 92
      · have t3 := e_true s R e1 92 92 rfl e2
        by_cases e3 : R + 1 < s.size
        · have t4 := e_false s (R + 1) e3 10 10 rfl (fun h => ha.2.2 ⟨e2, e3, h⟩)
          clear ha e2
          go_wp2
          go_meet
          case rel => trivial
        · clear ha e2
          go_wp2
          go_meet
          case rel => trivial
      · have t3 := e_false s R e1 92 92 rfl e2
        clear ha e2
        go_wp2
        go_meet
        case rel => trivial
    · go_wp2
      go_meet
      case rel => trivial
  case rest =>
    subst hcut
    go_wp2_with fail
    go_loop [9] (fun v => ∃ m : Nat, p ≤ m ∧ m ≤ R ∧ v = .int .i64 m) (fun v => R - (intOf v).toNat)
    case atStart => exact ⟨p, Nat.le_refl _, hR0, rfl⟩
    case round =>
      obtain ⟨m, m1, m2, rfl⟩ := hrel
      by_cases hlt : m < R
      · have hm := hin.out m m1 hlt
        have hz : m < s.size := by omega
        by_cases b1 : byt s m = 92
        · have hm2 := hm.1 b1
          have hz2 : m + 1 < s.size := by omega
          have hr2 : m + 1 < R := hm2.1
          have t1 := e_true s m hz 92 92 rfl b1
          have t2 := n_false s (m + 1) hz2 10 10 rfl hm2.2
          clear hm hm2 b1
          go_wp2
          go_round
          case rel => exact ⟨m + 1, by omega, by omega, by go_num⟩
          case measure => simp [intOf]; omega
        · have t1 := e_false s m hz 92 92 rfl b1
          by_cases b2 : byt s m = 10
          · obtain ⟨q1, q2⟩ := hm.2.1 b2
            obtain ⟨m', rfl⟩ : ∃ m', m = m' + 1 := ⟨m - 1, by omega⟩
            have hz3 : m' < s.size := by omega
            have t2 := e_true s (m' + 1) hz 10 10 rfl b2
            have t3 := n_false s m' hz3 92 92 rfl (by simpa using q2)
            have t4 : ((m' : Int) + 1 == (p : Int)) = false := by simp; omega
            clear hm q2 b1 b2
            go_wp2
            go_round
            case rel => exact ⟨m' + 1 + 1, by omega, by omega, by go_num⟩
            case measure => simp [intOf]; omega
          · have t2 := e_false s m hz 10 10 rfl b2
            by_cases b3 : byt s m = 32
            · have t3 := n_false s m hz 32 32 rfl b3
              clear hm b1 b2 b3
              go_wp2
              go_round
              case rel => exact ⟨m + 1, by omega, by omega, by go_num⟩
              case measure => simp [intOf]; omega
            · have t3 := n_true s m hz 32 32 rfl b3
              have t4 := n_false s m hz 9 9 rfl (by omega)
              clear hm b1 b2 b3
              go_wp2
              go_round
              case rel => exact ⟨m + 1, by omega, by omega, by go_num⟩
              case measure => simp [intOf]; omega
      · go_wp2_with fail
        refine (cS.out _).mono ?_
        rintro e w2 ⟨rfl, g2⟩
        go_wp2
        go_ret
        exact ⟨rfl, grown_trans g1 g2⟩

/-! ### STEP 1: THE WALK: the Go text returns true. 'Grown w w'': the world has at most new blocks (Derived/RowKit3.lean). Part the cases AHEAD of 'go_enter' where a test parts the walk; take each callee by a contract of your own. -/
theorem walk (a0 : ByteArray) (a1 : Int) (a2 : Int) (w0 : a0.size ≤ maxLen) (w1 : (Lit.int .i64 a1).wf = true) (w2 : (Lit.int .i64 a2).wf = true) (w : World) :
    Calls Trym.prog 4 #[.string a0, .int .i64 a1, .int .i64 a2] w fun e w' => e = .returned (.bool true) ∧ Grown w w' := by
  by_cases h : 1048576 < (a0.size : Int)
  · exact long a0 a1 a2 h w0 w
  · have hs : a0.size ≤ 1048576 := by omega
    by_cases hi : a1 < 0 ∨ (a0.size : Int) < a1 ∨ a2 < a1 ∨ (a0.size : Int) < a2
    · exact outside a0 a1 a2 hs hi w
    · obtain ⟨p, rfl⟩ : ∃ p : Nat, a1 = p := ⟨a1.toNat, by omega⟩
      obtain ⟨j, rfl⟩ : ∃ j : Nat, a2 = j := ⟨a2.toNat, by omega⟩
      have h1 : p ≤ j := by omega
      have h2 : j ≤ a0.size := by omega
      have cR := Sb.zz_skip a0 p hs (by omega)
      have cS := Sb.zz_skip a0 j hs h2
      have hR0 := Sk.skip_ge (byt a0) a0.size _ p (Nat.le_refl _)
      have hR1 := Sk.skip_le (byt a0) a0.size _ p (Nat.le_refl _) (by omega)
      have hS0 := Sk.skip_ge (byt a0) a0.size _ j (Nat.le_refl _)
      have hS1 := Sk.skip_le (byt a0) a0.size _ j (Nat.le_refl _) h2
      have hin : In a0 p (Sk.skip (byt a0) a0.size p) := Sk.skip_in (byt a0) a0.size _ p (Nat.le_refl _)
      have hat : At a0 (Sk.skip (byt a0) a0.size p) := Sk.skip_at (byt a0) a0.size _ p (Nat.le_refl _)
      have sk := Sk.skip_again (byt a0) a0.size _ p (Nat.le_refl _) j h1
      generalize Sk.skip (byt a0) a0.size j = S at *
      generalize Sk.skip (byt a0) a0.size p = R at *
      by_cases d1 : R < j
      · exact core1 a0 p j R S hs h1 h2 hR0 hR1 hin hat cR cS d1 hS0 hS1 w
      · have sk := sk (by omega)
        by_cases d2 : p < j
        · obtain ⟨j', rfl⟩ : ∃ j', j = j' + 1 := ⟨j - 1, by omega⟩
          by_cases d3 : byt a0 j' = 92
          · rw [sk.1 ⟨d2, by simpa using d3⟩] at cS
            exact core2 a0 p j' R hs hR0 hR1 hin hat cR cS (by omega) (by omega) d3 w
          · rw [sk.2 (fun hh => d3 (by simpa using hh.2))] at cS
            exact core3 a0 p j' R hs hR0 hR1 hin hat cR cS (by omega) (by omega) d3 w
        · obtain rfl : j = p := by omega
          rw [sk.2 (by omega)] at cS
          exact core4 a0 j R hs hR0 hR1 hin hat cR cS h2 w

/-! ### THE ROW's STEP: WRITTEN OUT: LEAVE IT -/
set_option maxRecDepth 100000 in
theorem lifted (os : Os) (started : os.Started) (H : Type) (enc : TypeId × Value → H) :
    ReturnsInHanded {} Trym.checked os 4 .any (Rows.fnSkipBlanksRestartSpec.pre6 enc Trym.prog Trym.f4 Rows.fnSkipBlanksRestartRow.domain false) (Rows.fnSkipBlanksRestartSpec.post enc Trym.prog Trym.f4 false true false false) := by
  refine returnsInHanded_of_change (C := Trym.checked) own started (by kernel_rfl) Trym.func4
    (ChangeSpec.witness6 (enc := enc) (C := Trym.checked) false ⟨#[], #[.string ByteArray.empty, .int .i64 0, .int .i64 0], []⟩ 8 (by kernel_rfl) (by kernel_rfl) (by kernel_rfl) (by kernel_rfl)) ?_
  intro W base args ds gs before hval0 hW hcnd _
  have hval : ∀ (j : Nat) t v, Trym.f4.params[j]? = some t → args[j]? = some v → Value.okWide Trym.prog W .any base t v := hval0
  have hW' := hW
  obtain ⟨p, q, hA0, hV, rfl, hfz, hnd⟩ := hW
  have hA : DataW.TrodAll enc Trym.prog W 0 (fun _ => true) true Trym.f4.params.toList args.toList ds p := hA0
  rw [Trym.params4] at hA hval
  obtain ⟨v0, vs0, d0, ds0, p0, q0, hargs, rfl, rfl, h0, r0⟩ := trodAll_cons hA
  obtain ⟨v1, vs1, d1, ds1, p1, q1, rfl, rfl, rfl, h1, r1⟩ := trodAll_cons r0
  obtain ⟨v2, vs2, d2, ds2, p2, q2, rfl, rfl, rfl, h2, r2⟩ := trodAll_cons r1
  obtain ⟨rfl, rfl, rfl⟩ := trodAll_nil r2
  obtain rfl : args = #[v0, v1, v2] := by cases args; simp_all
  obtain ⟨rfl, rfl⟩ := trodVars_none hV
  obtain ⟨a0, rfl, rfl, rfl, w0⟩ := open_string Trym.underlying9 (hval 0 9 v0 rfl rfl) h0
  obtain ⟨a1, rfl, rfl, rfl, w1⟩ := open_int Trym.underlying3 (hval 1 3 v1 rfl rfl) h1
  obtain ⟨a2, rfl, rfl, rfl, w2⟩ := open_int Trym.underlying3 (hval 2 3 v2 rfl rfl) h2
  clear hA0 hval0
  simp only [List.append_nil] at hW'
  refine (walk a0 a1 a2 w0 w1 w2 W).mono fun e W' ⟨he, hg⟩ => ?_
  subst he
  exact ⟨_, rfl, post_of_same (pa := []) (pv := []) hW' (fun _ _ _ => (trodAll_cons_mk (shut_bool Trym.underlying4 _) trodAll_mk0)) (fun sp _ => (trodAll_cons_mk (shut_string Trym.underlying9 w0) (trodAll_cons_mk (shut_int Trym.underlying3 w1) (trodAll_cons_mk (shut_int Trym.underlying3 w2) trodAll_mk0)))) (fun _ _ => rfl) rfl
    (hg.frame _) hg.2.1 (ok_one (by kernel_rfl) rfl (okWide_bool_mk Trym.underlying4 _))⟩

theorem over : Rows.fnSkipBlanksRestartRow.holds Trym.pinned (OpenSpec.ofChange Rows.fnSkipBlanksRestartSpec) :=
  OpenClaim.holds_of_wide 4 Trym.f4 rfl rfl rfl rfl rfl rfl rfl ⟨rfl, rfl, rfl, rfl, rfl⟩ rfl rfl rfl rfl rfl (by kernel_rfl) Trym.func4 (by kernel_rfl)
    (of_decide_eq_true (by kernel_rfl)) (by unfold Func.isWrapper; first | (rw [if_pos (by decide +kernel)]; kernel_rfl) | (rw [if_neg (by decide +kernel)]; exact ⟨rfl, rfl⟩))
    (fun os started H enc _ => lifted os started H enc)

/-- ████ THE STATEMENT ████ -/
theorem proved : Rows.FnSkipBlanksRestartSaid :=
  over
#print axioms proved
end Go.Proofs.Qxb6618695aMods.fnSkipBlanksRestart
