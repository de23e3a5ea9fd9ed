/- A proof of the given statement, over the shell that the kit's program wrote: the walk is filled in. -/
import Derived.Test.Qxb6618695aModsRows
import Derived.WalkKit
import Derived.ProofKit
import Derived.OpenShut
import Derived.ShutString
import Derived.Test.Qxb6618695aModsSkip
namespace Go.Proofs.Qxb6618695aMods.fnSkipBlanksPrefixCut
open Go.ChangeShapes Go.WideShapes Go.ChangeAt Go.RowKit
open Go.ChangeMaps (open_string shut_string)
set_option linter.unusedVariables false      -- a walk need not use every 'w<i>' (that an integer argument fits its kind)

theorem own : ownKnob Trym.prog.godebug = none := by kernel_rfl


open Hp

theorem grown_trans {a b c : World} (h : Grown a b) (g : Grown b c) : Grown a c :=
  ⟨World.keptBut_trans h.1 g.1, fun x => (g.2.1 x).trans (h.2.1 x), Nat.le_trans h.2.2 g.2.2⟩

set_option maxHeartbeats 400000 in
theorem long (a0 : ByteArray) (a1 a2 : Int) (h : 1048576 < (a0.size : Int)) (w0 : a0.size ≤ maxLen) (w : World) :
    Calls Trym.prog 3 #[.string a0, .int .i64 a1, .int .i64 a2] w fun e w' => e = .returned (.bool true) ∧ Grown w w' := by
  unfold maxLen at w0
  go_enter Trym.func3, Trym.ntmps3
  go_wp2
  go_ret
  exact ⟨rfl, Grown.refl _⟩

theorem zzb (a0 : ByteArray) (a1 a2 : Int) (h : a0.size ≤ 1048576) (w : World) :
    Calls Trym.prog 7 #[.string a0, .int .i64 a1, .int .i64 a2] w fun e w' => e = .returned (.bool true) ∧ w' = w := by
  have h1 : ¬ 1048576 < (a0.size : Int) := by omega
  go_enter Trym.func7, Trym.ntmps7
  go_wp2
  go_ret
  exact ⟨rfl, rfl⟩

set_option maxHeartbeats 400000 in
theorem outside (a0 : ByteArray) (a1 a2 : Int) (h : a0.size ≤ 1048576) (hi : a1 < 0 ∨ (a0.size : Int) < a1 ∨ a2 < a1 ∨ (a0.size : Int) < a2) (w : World) :
    Calls Trym.prog 3 #[.string a0, .int .i64 a1, .int .i64 a2] w fun e w' => e = .returned (.bool true) ∧ Grown w w' := by
  have h1 : ¬ 1048576 < (a0.size : Int) := by omega
  by_cases c1 : a1 < 0
  · go_enter Trym.func3, Trym.ntmps3
    go_wp2
    go_ret
    exact ⟨rfl, Grown.refl _⟩
  · by_cases c2 : (a0.size : Int) < a1
    · go_enter Trym.func3, Trym.ntmps3
      go_wp2
      go_ret
      exact ⟨rfl, Grown.refl _⟩
    · by_cases c3 : a2 < a1
      · go_enter Trym.func3, Trym.ntmps3
        go_wp2
        go_ret
        exact ⟨rfl, Grown.refl _⟩
      · have c4 : (a0.size : Int) < a2 := by omega
        go_enter Trym.func3, Trym.ntmps3
        go_wp2
        go_ret
        exact ⟨rfl, Grown.refl _⟩

/-- what the run of blanks says of R -/
def Runs (s : ByteArray) (p m R : Nat) : Prop := R = Sk.skip (byt s) s.size p ∧ ∀ i, p ≤ i → i < m → byt s i = 32 ∨ byt s i = 9

theorem Runs.le {s : ByteArray} {p m R : Nat} (h : Runs s p m R) (h1 : p ≤ m) (h2 : m ≤ s.size) : R = Sk.skip (byt s) s.size m ∧ m ≤ R := by
  have e := Sk.skip_run (byt s) s.size p (m - p) (by omega) (fun i a b => h.2 i a (by omega))
  rw [show p + (m - p) = m from by omega] at e
  have g := Sk.skip_ge (byt s) s.size _ m (Nat.le_refl _)
  exact ⟨h.1.trans e, by rw [h.1, e]; exact g⟩

theorem Runs.step {s : ByteArray} {p m R : Nat} (h : Runs s p m R) (hb : byt s m = 32 ∨ byt s m = 9) : Runs s p (m + 1) R :=
  ⟨h.1, fun i a b => by
    by_cases e : i = m
    · subst e; exact hb
    · exact h.2 i a (by omega)⟩

theorem Runs.full {s : ByteArray} {p R : Nat} (h : Runs s p s.size R) (h1 : p ≤ s.size) : R = s.size :=
  (h.le h1 (Nat.le_refl _)).1.trans (Sk.skip_end _ _ _ (Nat.le_refl _))

theorem Runs.stop {s : ByteArray} {p m R : Nat} (h : Runs s p m R) (h1 : p ≤ m) (h2 : m ≤ s.size) (hb : ¬ (byt s m = 32 ∨ byt s m = 9)) (hn : byt s m ≠ 92) : R = m :=
  (h.le h1 h2).1.trans (Sk.skip_stop _ _ _ hb (by omega))

set_option maxHeartbeats 1000000 in
theorem core1 (s : ByteArray) (p k R : Nat) (hs : s.size ≤ 1048576) (h1 : p ≤ k) (h2 : k ≤ s.size) (hR0 : p ≤ R) (hR : R ≤ s.size) (hrun : Runs s p p R)
    (cR : Hid (∀ w, Calls Trym.prog 8 #[.string s, .int .i64 p] w fun e w' => e = .returned (.int .i64 R) ∧ Grown w w'))
    (cQ : Hid (∀ w, Calls Trym.prog 8 #[.string (s.extract 0 k), .int .i64 p] w fun e w' => e = .returned (.int .i64 R) ∧ Grown w w'))
    (hd : R ≤ k) (w : World) :
    Calls Trym.prog 3 #[.string s, .int .i64 p, .int .i64 k] w fun e w' => e = .returned (.bool true) ∧ Grown w w' := by
  have j1 : ¬ 1048576 < (s.size : Int) := by omega
  have HR : Hid (Runs s p p R) := hrun
  clear hrun
  go_enter Trym.func3, Trym.ntmps3
  go_wp2_with fail
  refine (zzb s p k hs w).mono ?_
  rintro e w' ⟨rfl, rfl⟩
  go_wp2_with fail
  refine (cR.out _).mono ?_
  rintro e w1 ⟨rfl, g1⟩
  go_wp2_with fail
  refine (cQ.out _).mono ?_
  rintro e w2 ⟨rfl, g2⟩
  have g := grown_trans g1 g2
  clear g1 g2
  go_wp2_with fail
  go_loop [9] (fun v => ∃ m : Nat, p ≤ m ∧ m ≤ s.size ∧ v = .int .i64 m ∧ Runs s p m R) (fun v => s.size - (intOf v).toNat)
  case atStart => exact ⟨p, Nat.le_refl _, by omega, rfl, HR.out⟩
  case round =>
    obtain ⟨m, m1, m2, rfl, hru⟩ := hrel
    clear HR
    have HU : Hid (Runs s p m R) := hru
    clear hru
    have rm := (HU.out.le m1 m2).2
    by_cases hlt : m < s.size
    · have hbm := byt_at s m hlt
      by_cases b1 : byt s m = 32
      · have HN : Hid (Runs s p (m + 1) R) := HU.out.step (Or.inl b1)
        have t1 : ((s[m].toNat : Int) == 32) = true := by rw [← hbm, b1]; rfl
        clear hbm b1 HU
        go_wp2
        go_round
        case rel => exact ⟨m + 1, by omega, by omega, by go_num, HN.out⟩
        case measure => simp [intOf]; omega
      · have t1 : ((s[m].toNat : Int) == 32) = false := by rw [← hbm]; simp; omega
        by_cases b2 : byt s m = 9
        · have HN : Hid (Runs s p (m + 1) R) := HU.out.step (Or.inr b2)
          have t2 : ((s[m].toNat : Int) == 9) = true := by rw [← hbm, b2]; rfl
          clear hbm b1 b2 HU
          go_wp2
          go_round
          case rel => exact ⟨m + 1, by omega, by omega, by go_num, HN.out⟩
          case measure => simp [intOf]; omega
        · have t2 : ((s[m].toNat : Int) == 9) = false := by rw [← hbm]; simp; omega
          by_cases b3 : byt s m = 92
          · have t3 : ((s[m].toNat : Int) != 92) = false := by rw [← hbm, b3]; rfl
            clear hbm b1 b2 b3 HU
            go_wp2
            go_ret
            exact ⟨rfl, g⟩
          · have t3 : ((s[m].toNat : Int) != 92) = true := by rw [← hbm]; simp; omega
            have hRm := HU.out.stop m1 m2 (by omega) b3
            clear hbm b1 b2 b3 HU
            subst hRm
            go_wp2
            go_ret
            exact ⟨rfl, g⟩
    · obtain rfl : m = s.size := by omega
      have hRm := HU.out.full m1
      clear HU
      subst hRm
      go_wp2
      go_ret
      exact ⟨rfl, g⟩

set_option maxHeartbeats 1000000 in
theorem core2 (s : ByteArray) (p k R : Nat) (hs : s.size ≤ 1048576) (hR0 : p ≤ R) (hR : R ≤ s.size) (hrun : Runs s p p R)
    (cR : Hid (∀ w, Calls Trym.prog 8 #[.string s, .int .i64 p] w fun e w' => e = .returned (.int .i64 R) ∧ Grown w w'))
    (cQ : Hid (∀ w, Calls Trym.prog 8 #[.string (s.extract 0 (k + 1)), .int .i64 p] w fun e w' => e = .returned (.int .i64 k) ∧ Grown w w'))
    (h1 : p ≤ k) (hk : k < s.size) (hd : k + 1 < R) (hb : byt s k = 92) (w : World) :
    Calls Trym.prog 3 #[.string s, .int .i64 p, .int .i64 ((k : Int) + 1)] w fun e w' => e = .returned (.bool true) ∧ Grown w w' := by
  have j1 : ¬ 1048576 < (s.size : Int) := by omega
  have t0 : ((s[k].toNat : Int) == 92) = true := by rw [← byt_at s k hk, hb]; rfl
  clear hb
  have HR : Hid (Runs s p p R) := hrun
  clear hrun
  go_enter Trym.func3, Trym.ntmps3
  go_wp2_with fail
  refine (zzb s p _ hs w).mono ?_
  rintro e w' ⟨rfl, rfl⟩
  go_wp2_with fail
  refine (cR.out _).mono ?_
  rintro e w1 ⟨rfl, g1⟩
  go_wp2_with fail
  refine (cQ.out _).mono ?_
  rintro e w2 ⟨rfl, g2⟩
  have g := grown_trans g1 g2
  clear g1 g2
  go_wp2_with fail
  go_loop [9] (fun v => ∃ m : Nat, p ≤ m ∧ m ≤ s.size ∧ v = .int .i64 m ∧ Runs s p m R) (fun v => s.size - (intOf v).toNat)
  case atStart => exact ⟨p, Nat.le_refl _, by omega, rfl, HR.out⟩
  case round =>
    obtain ⟨m, m1, m2, rfl, hru⟩ := hrel
    clear HR
    have HU : Hid (Runs s p m R) := hru
    clear hru
    have rm := (HU.out.le m1 m2).2
    by_cases hlt : m < s.size
    · have hbm := byt_at s m hlt
      by_cases b1 : byt s m = 32
      · have HN : Hid (Runs s p (m + 1) R) := HU.out.step (Or.inl b1)
        have t1 : ((s[m].toNat : Int) == 32) = true := by rw [← hbm, b1]; rfl
        clear hbm b1 HU
        go_wp2
        go_round
        case rel => exact ⟨m + 1, by omega, by omega, by go_num, HN.out⟩
        case measure => simp [intOf]; omega
      · have t1 : ((s[m].toNat : Int) == 32) = false := by rw [← hbm]; simp; omega
        by_cases b2 : byt s m = 9
        · have HN : Hid (Runs s p (m + 1) R) := HU.out.step (Or.inr b2)
          have t2 : ((s[m].toNat : Int) == 9) = true := by rw [← hbm, b2]; rfl
          clear hbm b1 b2 HU
          go_wp2
          go_round
          case rel => exact ⟨m + 1, by omega, by omega, by go_num, HN.out⟩
          case measure => simp [intOf]; omega
        · have t2 : ((s[m].toNat : Int) == 9) = false := by rw [← hbm]; simp; omega
          by_cases b3 : byt s m = 92
          · have t3 : ((s[m].toNat : Int) != 92) = false := by rw [← hbm, b3]; rfl
            clear hbm b1 b2 b3 HU
            go_wp2
            go_ret
            exact ⟨rfl, g⟩
          · have t3 : ((s[m].toNat : Int) != 92) = true := by rw [← hbm]; simp; omega
            have hRm := HU.out.stop m1 m2 (by omega) b3
            clear hbm b1 b2 b3 HU
            subst hRm
            go_wp2
            go_ret
            exact ⟨rfl, g⟩
    · obtain rfl : m = s.size := by omega
      have hRm := HU.out.full m1
      clear HU
      subst hRm
      go_wp2
      go_ret
      exact ⟨rfl, g⟩

set_option maxHeartbeats 1000000 in
theorem core3 (s : ByteArray) (p k R : Nat) (hs : s.size ≤ 1048576) (hR0 : p ≤ R) (hR : R ≤ s.size) (hrun : Runs s p p R)
    (cR : Hid (∀ w, Calls Trym.prog 8 #[.string s, .int .i64 p] w fun e w' => e = .returned (.int .i64 R) ∧ Grown w w'))
    (cQ : Hid (∀ w, Calls Trym.prog 8 #[.string (s.extract 0 (k + 1)), .int .i64 p] w fun e w' => e = .returned (.int .i64 ((k : Int) + 1)) ∧ Grown w w'))
    (h1 : p ≤ k) (hk : k < s.size) (hd : k + 1 < R) (hb : byt s k ≠ 92) (w : World) :
    Calls Trym.prog 3 #[.string s, .int .i64 p, .int .i64 ((k : Int) + 1)] w fun e w' => e = .returned (.bool true) ∧ Grown w w' := by
  have j1 : ¬ 1048576 < (s.size : Int) := by omega
  have t0 : ((s[k].toNat : Int) == 92) = false := by rw [← byt_at s k hk]; simp; omega
  clear hb
  have HR : Hid (Runs s p p R) := hrun
  clear hrun
  go_enter Trym.func3, Trym.ntmps3
  go_wp2_with fail
  refine (zzb s p _ hs w).mono ?_
  rintro e w' ⟨rfl, rfl⟩
  go_wp2_with fail
  refine (cR.out _).mono ?_
  rintro e w1 ⟨rfl, g1⟩
  go_wp2_with fail
  refine (cQ.out _).mono ?_
  rintro e w2 ⟨rfl, g2⟩
  have g := grown_trans g1 g2
  clear g1 g2
  go_wp2_with fail
  go_loop [9] (fun v => ∃ m : Nat, p ≤ m ∧ m ≤ s.size ∧ v = .int .i64 m ∧ Runs s p m R) (fun v => s.size - (intOf v).toNat)
  case atStart => exact ⟨p, Nat.le_refl _, by omega, rfl, HR.out⟩
  case round =>
    obtain ⟨m, m1, m2, rfl, hru⟩ := hrel
    clear HR
    have HU : Hid (Runs s p m R) := hru
    clear hru
    have rm := (HU.out.le m1 m2).2
    by_cases hlt : m < s.size
    · have hbm := byt_at s m hlt
      by_cases b1 : byt s m = 32
      · have HN : Hid (Runs s p (m + 1) R) := HU.out.step (Or.inl b1)
        have t1 : ((s[m].toNat : Int) == 32) = true := by rw [← hbm, b1]; rfl
        clear hbm b1 HU
        go_wp2
        go_round
        case rel => exact ⟨m + 1, by omega, by omega, by go_num, HN.out⟩
        case measure => simp [intOf]; omega
      · have t1 : ((s[m].toNat : Int) == 32) = false := by rw [← hbm]; simp; omega
        by_cases b2 : byt s m = 9
        · have HN : Hid (Runs s p (m + 1) R) := HU.out.step (Or.inr b2)
          have t2 : ((s[m].toNat : Int) == 9) = true := by rw [← hbm, b2]; rfl
          clear hbm b1 b2 HU
          go_wp2
          go_round
          case rel => exact ⟨m + 1, by omega, by omega, by go_num, HN.out⟩
          case measure => simp [intOf]; omega
        · have t2 : ((s[m].toNat : Int) == 9) = false := by rw [← hbm]; simp; omega
          by_cases b3 : byt s m = 92
          · have t3 : ((s[m].toNat : Int) != 92) = false := by rw [← hbm, b3]; rfl
            clear hbm b1 b2 b3 HU
            go_wp2
            go_ret
            exact ⟨rfl, g⟩
          · have t3 : ((s[m].toNat : Int) != 92) = true := by rw [← hbm]; simp; omega
            have hRm := HU.out.stop m1 m2 (by omega) b3
            clear hbm b1 b2 b3 HU
            subst hRm
            go_wp2
            go_ret
            exact ⟨rfl, g⟩
    · obtain rfl : m = s.size := by omega
      have hRm := HU.out.full m1
      clear HU
      subst hRm
      go_wp2
      go_ret
      exact ⟨rfl, g⟩

set_option maxHeartbeats 1000000 in
theorem core4 (s : ByteArray) (p R : Nat) (hs : s.size ≤ 1048576) (hR0 : p ≤ R) (hR : R ≤ s.size) (hrun : Runs s p p R)
    (cR : Hid (∀ w, Calls Trym.prog 8 #[.string s, .int .i64 p] w fun e w' => e = .returned (.int .i64 R) ∧ Grown w w'))
    (cQ : Hid (∀ w, Calls Trym.prog 8 #[.string (s.extract 0 p), .int .i64 p] w fun e w' => e = .returned (.int .i64 p) ∧ Grown w w'))
    (h2 : p ≤ s.size) (hd : p < R) (w : World) :
    Calls Trym.prog 3 #[.string s, .int .i64 p, .int .i64 p] w fun e w' => e = .returned (.bool true) ∧ Grown w w' := by
  have j1 : ¬ 1048576 < (s.size : Int) := by omega
  have HR : Hid (Runs s p p R) := hrun
  clear hrun
  go_enter Trym.func3, Trym.ntmps3
  go_wp2_with fail
  refine (zzb s p _ hs w).mono ?_
  rintro e w' ⟨rfl, rfl⟩
  go_wp2_with fail
  refine (cR.out _).mono ?_
  rintro e w1 ⟨rfl, g1⟩
  go_wp2_with fail
  refine (cQ.out _).mono ?_
  rintro e w2 ⟨rfl, g2⟩
  have g := grown_trans g1 g2
  clear g1 g2
  go_wp2_with fail
  go_loop [9] (fun v => ∃ m : Nat, p ≤ m ∧ m ≤ s.size ∧ v = .int .i64 m ∧ Runs s p m R) (fun v => s.size - (intOf v).toNat)
  case atStart => exact ⟨p, Nat.le_refl _, by omega, rfl, HR.out⟩
  case round =>
    obtain ⟨m, m1, m2, rfl, hru⟩ := hrel
    clear HR
    have HU : Hid (Runs s p m R) := hru
    clear hru
    have rm := (HU.out.le m1 m2).2
    by_cases hlt : m < s.size
    · have hbm := byt_at s m hlt
      by_cases b1 : byt s m = 32
      · have HN : Hid (Runs s p (m + 1) R) := HU.out.step (Or.inl b1)
        have t1 : ((s[m].toNat : Int) == 32) = true := by rw [← hbm, b1]; rfl
        clear hbm b1 HU
        go_wp2
        go_round
        case rel => exact ⟨m + 1, by omega, by omega, by go_num, HN.out⟩
        case measure => simp [intOf]; omega
      · have t1 : ((s[m].toNat : Int) == 32) = false := by rw [← hbm]; simp; omega
        by_cases b2 : byt s m = 9
        · have HN : Hid (Runs s p (m + 1) R) := HU.out.step (Or.inr b2)
          have t2 : ((s[m].toNat : Int) == 9) = true := by rw [← hbm, b2]; rfl
          clear hbm b1 b2 HU
          go_wp2
          go_round
          case rel => exact ⟨m + 1, by omega, by omega, by go_num, HN.out⟩
          case measure => simp [intOf]; omega
        · have t2 : ((s[m].toNat : Int) == 9) = false := by rw [← hbm]; simp; omega
          by_cases b3 : byt s m = 92
          · have t3 : ((s[m].toNat : Int) != 92) = false := by rw [← hbm, b3]; rfl
            clear hbm b1 b2 b3 HU
            go_wp2
            go_ret
            exact ⟨rfl, g⟩
          · have t3 : ((s[m].toNat : Int) != 92) = true := by rw [← hbm]; simp; omega
            have hRm := HU.out.stop m1 m2 (by omega) b3
            clear hbm b1 b2 b3 HU
            subst hRm
            go_wp2
            go_ret
            exact ⟨rfl, g⟩
    · obtain rfl : m = s.size := by omega
      have hRm := HU.out.full m1
      clear HU
      subst hRm
      go_wp2
      go_ret
      exact ⟨rfl, g⟩
theorem size_cut (s : ByteArray) (k : Nat) (h : k ≤ s.size) : (s.extract 0 k).size = k := by simp; omega

theorem byt_cut (s : ByteArray) (k i : Nat) (h : i < k) : byt (s.extract 0 k) i = byt s i := by
  unfold byt
  have e1 : (s.extract 0 k).data.toList = s.data.toList.take k := by simp [ByteArray.data_extract]
  rw [e1, List.getElem?_take_of_lt h]

/-! ### STEP 1: THE WALK: the Go text returns true. 'Grown w w'': the world has at most new blocks (Derived/RowKit3.lean). Part the cases AHEAD of 'go_enter' where a test parts the walk; take each callee by a contract of your own. -/
theorem walk (a0 : ByteArray) (a1 : Int) (a2 : Int) (w0 : a0.size ≤ maxLen) (w1 : (Lit.int .i64 a1).wf = true) (w2 : (Lit.int .i64 a2).wf = true) (w : World) :
    Calls Trym.prog 3 #[.string a0, .int .i64 a1, .int .i64 a2] w fun e w' => e = .returned (.bool true) ∧ Grown w w' := by
  by_cases h : 1048576 < (a0.size : Int)
  · exact long a0 a1 a2 h w0 w
  · have hs : a0.size ≤ 1048576 := by omega
    by_cases hi : a1 < 0 ∨ (a0.size : Int) < a1 ∨ a2 < a1 ∨ (a0.size : Int) < a2
    · exact outside a0 a1 a2 hs hi w
    · obtain ⟨p, rfl⟩ : ∃ p : Nat, a1 = p := ⟨a1.toNat, by omega⟩
      obtain ⟨k, rfl⟩ : ∃ k : Nat, a2 = k := ⟨a2.toNat, by omega⟩
      have h1 : p ≤ k := by omega
      have h2 : k ≤ a0.size := by omega
      have cR := Sb.zz_skip a0 p hs (by omega)
      have cQ := Sb.zz_skip (a0.extract 0 k) p (by rw [size_cut a0 k h2]; omega) (by rw [size_cut a0 k h2]; omega)
      rw [size_cut a0 k h2] at cQ
      have sk := Sk.skip_cut (byt a0) (byt (a0.extract 0 k)) a0.size k h2 (fun i hi => byt_cut a0 k i hi) _ p (Nat.le_refl _) h1
      have hR0 := Sk.skip_ge (byt a0) a0.size _ p (Nat.le_refl _)
      have hR1 := Sk.skip_le (byt a0) a0.size _ p (Nat.le_refl _) (by omega)
      have hru : Runs a0 p p (Sk.skip (byt a0) a0.size p) := ⟨rfl, fun i x y => by omega⟩
      generalize Sk.skip (byt a0) a0.size p = R at *
      generalize Sk.skip (byt (a0.extract 0 k)) k p = Q at *
      by_cases d1 : R ≤ k
      · rw [sk.1 d1] at cQ
        exact core1 a0 p k R hs h1 h2 hR0 hR1 hru cR cQ d1 w
      · by_cases d2 : p < k
        · obtain ⟨k', rfl⟩ : ∃ k', k = k' + 1 := ⟨k - 1, by omega⟩
          by_cases d3 : byt a0 k' = 92
          · rw [sk.2.1 (by omega) ⟨d2, by simpa using d3⟩] at cQ
            exact core2 a0 p k' R hs hR0 hR1 hru cR cQ (by omega) (by omega) (by omega) d3 w
          · rw [sk.2.2 (by omega) (fun hh => d3 (by simpa using hh.2))] at cQ
            exact core3 a0 p k' R hs hR0 hR1 hru cR cQ (by omega) (by omega) (by omega) d3 w
        · obtain rfl : k = p := by omega
          rw [sk.2.2 (by omega) (by omega)] at cQ
          exact core4 a0 k R hs hR0 hR1 hru cR cQ h2 (by omega) w

/-! ### THE ROW's STEP: WRITTEN OUT: LEAVE IT -/
set_option maxRecDepth 100000 in
theorem lifted (os : Os) (started : os.Started) (H : Type) (enc : TypeId × Value → H) :
    ReturnsInHanded {} Trym.checked os 3 .any (Rows.fnSkipBlanksPrefixCutSpec.pre6 enc Trym.prog Trym.f3 Rows.fnSkipBlanksPrefixCutRow.domain false) (Rows.fnSkipBlanksPrefixCutSpec.post enc Trym.prog Trym.f3 false true false false) := by
  refine returnsInHanded_of_change (C := Trym.checked) own started (by kernel_rfl) Trym.func3
    (ChangeSpec.witness6 (enc := enc) (C := Trym.checked) false ⟨#[], #[.string ByteArray.empty, .int .i64 0, .int .i64 0], []⟩ 8 (by kernel_rfl) (by kernel_rfl) (by kernel_rfl) (by kernel_rfl)) ?_
  intro W base args ds gs before hval0 hW hcnd _
  have hval : ∀ (j : Nat) t v, Trym.f3.params[j]? = some t → args[j]? = some v → Value.okWide Trym.prog W .any base t v := hval0
  have hW' := hW
  obtain ⟨p, q, hA0, hV, rfl, hfz, hnd⟩ := hW
  have hA : DataW.TrodAll enc Trym.prog W 0 (fun _ => true) true Trym.f3.params.toList args.toList ds p := hA0
  rw [Trym.params3] at hA hval
  obtain ⟨v0, vs0, d0, ds0, p0, q0, hargs, rfl, rfl, h0, r0⟩ := trodAll_cons hA
  obtain ⟨v1, vs1, d1, ds1, p1, q1, rfl, rfl, rfl, h1, r1⟩ := trodAll_cons r0
  obtain ⟨v2, vs2, d2, ds2, p2, q2, rfl, rfl, rfl, h2, r2⟩ := trodAll_cons r1
  obtain ⟨rfl, rfl, rfl⟩ := trodAll_nil r2
  obtain rfl : args = #[v0, v1, v2] := by cases args; simp_all
  obtain ⟨rfl, rfl⟩ := trodVars_none hV
  obtain ⟨a0, rfl, rfl, rfl, w0⟩ := open_string Trym.underlying9 (hval 0 9 v0 rfl rfl) h0
  obtain ⟨a1, rfl, rfl, rfl, w1⟩ := open_int Trym.underlying3 (hval 1 3 v1 rfl rfl) h1
  obtain ⟨a2, rfl, rfl, rfl, w2⟩ := open_int Trym.underlying3 (hval 2 3 v2 rfl rfl) h2
  clear hA0 hval0
  simp only [List.append_nil] at hW'
  refine (walk a0 a1 a2 w0 w1 w2 W).mono fun e W' ⟨he, hg⟩ => ?_
  subst he
  exact ⟨_, rfl, post_of_same (pa := []) (pv := []) hW' (fun _ _ _ => (trodAll_cons_mk (shut_bool Trym.underlying4 _) trodAll_mk0)) (fun sp _ => (trodAll_cons_mk (shut_string Trym.underlying9 w0) (trodAll_cons_mk (shut_int Trym.underlying3 w1) (trodAll_cons_mk (shut_int Trym.underlying3 w2) trodAll_mk0)))) (fun _ _ => rfl) rfl
    (hg.frame _) hg.2.1 (ok_one (by kernel_rfl) rfl (okWide_bool_mk Trym.underlying4 _))⟩

theorem over : Rows.fnSkipBlanksPrefixCutRow.holds Trym.pinned (OpenSpec.ofChange Rows.fnSkipBlanksPrefixCutSpec) :=
  OpenClaim.holds_of_wide 3 Trym.f3 rfl rfl rfl rfl rfl rfl rfl ⟨rfl, rfl, rfl, rfl, rfl⟩ rfl rfl rfl rfl rfl (by kernel_rfl) Trym.func3 (by kernel_rfl)
    (of_decide_eq_true (by kernel_rfl)) (by unfold Func.isWrapper; first | (rw [if_pos (by decide +kernel)]; kernel_rfl) | (rw [if_neg (by decide +kernel)]; exact ⟨rfl, rfl⟩))
    (fun os started H enc _ => lifted os started H enc)

/-- ████ THE STATEMENT ████ -/
theorem proved : Rows.FnSkipBlanksPrefixCutSaid :=
  over
#print axioms proved
end Go.Proofs.Qxb6618695aMods.fnSkipBlanksPrefixCut
