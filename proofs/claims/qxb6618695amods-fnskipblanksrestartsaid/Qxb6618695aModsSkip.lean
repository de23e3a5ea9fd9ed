import Derived.Test.Qxb6618695aModsRows
import Derived.Test.Qxb6618695aModsHasPair
import Derived.WalkKit
import Derived.ProofKit
import Derived.Deep.QuietTactic
import Derived.BigQuiet
import Derived.Deep.LoopGhost
import Derived.Deep.RegionWith
namespace Go.Proofs.Qxb6618695aMods.Sb
open Go.ChangeShapes Go.WideShapes Go.ChangeAt Go.RowKit
open Hp

/-- the lexer's two fields in memory, at block b; all else as it was in w0, but for new blocks -/
def St (w0 wr : World) (b : Nat) (s : ByteArray) (k : Nat) : Prop :=
  wr.cell? ⟨b, 0, none⟩ = some (.string s) ∧ wr.cell? ⟨b, 1, none⟩ = some (.int .i64 k) ∧ wr.frozen? ⟨b, 1, none⟩ = false ∧ w0.heap.size ≤ b ∧ Grown w0 wr

theorem grown_drewN {W w : World} (h : Grown W w) : ∀ n, Grown W (w.drewN n)
  | 0 => h
  | n + 1 => by exact Grown.drew (grown_drewN h n)

theorem St.drewN {w0 wr : World} {b : Nat} {s : ByteArray} {k : Nat} (h : St w0 wr b s k) (n : Nat) : St w0 (wr.drewN n) b s k :=
  ⟨h.1, h.2.1, h.2.2.1, h.2.2.2.1, grown_drewN h.2.2.2.2 n⟩

theorem St.set {w0 wr : World} {b : Nat} {s : ByteArray} {k : Nat} (h : St w0 wr b s k) (k' : Nat) (v : Int) (hv : v = k') : St w0 (wr.setCell ⟨b, 1, none⟩ (.int .i64 v)) b s k' := by
  subst hv
  exact ⟨by rw [World.cell?_setCell_other _ _ _ _ (by simp)]; exact h.1, World.cell?_setCell_same _ _ _ h.2.1, by rw [World.frozen?_setCell]; exact h.2.2.1, h.2.2.2.1, h.2.2.2.2.setCell h.2.2.2.1 _⟩

set_option maxHeartbeats 1000000 in
theorem skip_any (w0 w : World) (b : Nat) (s : ByteArray) (p : Nat) (hs : s.size ≤ 1048576) (hp0 : p ≤ s.size) (hS : St w0 w b s p) :
    Calls Trym.prog 15 #[.pointer (some ⟨b, 0, none⟩)] w fun e w' => e = .returned (.tuple #[]) ∧ St w0 w' b s (Sk.skip (byt s) s.size p) := by
  go_enter Trym.func15, Trym.ntmps15
  go_wp2
  go_loopg [] (s.size - p) (fun g wr => ∃ k : Nat, k ≤ s.size ∧ s.size - k ≤ g ∧ St w0 wr b s k ∧ Sk.skip (byt s) s.size p = Sk.skip (byt s) s.size k)
  case atStart => exact ⟨p, hp0, Nat.le_refl _, hS, rfl⟩
  case round =>
    obtain ⟨k, hk, hg, hSk, he⟩ := hrel
    have HE : Hid (Sk.skip (byt s) s.size p = Sk.skip (byt s) s.size k) := he
    clear he
    obtain ⟨c0, c1, fz, _, _⟩ := id hSk
    by_cases hlt : k < s.size
    · have i1 : (k : Int) < (s.size : Int) := by omega
      have i0 : (0 : Int) ≤ (k : Int) := by omega
      have hbk := byt_at s k hlt
      by_cases hb : byt s k = 32 ∨ byt s k = 9
      · have HB := Sk.skip_blank (byt s) s.size k hlt hb
        have HN : Hid (Sk.skip (byt s) s.size p = Sk.skip (byt s) s.size (k + 1)) := HE.out.trans HB
        rw [hbk] at hb
        clear HB HE hbk
        rcases hb with hb | hb
        · have t1 : ((s[k].toNat : Int) == 32) = true := by rw [hb]; rfl
          clear hb
          go_wp2_with fail
          go_quiet (fail)
          go_wp2_with fail
          have hS2 := hSk.drewN nq
          generalize World.drewN wr nq = w2 at hS2 ⊢
          clear hSk c0 c1 fz
          obtain ⟨c0, c1, fz, _, _⟩ := id hS2
          go_quiet (fail)
          go_wp2_with fail
          go_roundg (s.size - (k + 1))
          case measure => omega
          case rel => exact ⟨k + 1, by omega, Nat.le_refl _, (hS2.set (k + 1) _ (by omega)).drewN _, HN.out⟩
        · have t1 : ((s[k].toNat : Int) == 32) = false := by rw [hb]; rfl
          have t2 : ((s[k].toNat : Int) == 9) = true := by rw [hb]; rfl
          clear hb
          go_wp2_with fail
          go_quiet (fail)
          go_wp2_with fail
          have hS2 := hSk.drewN nq
          generalize World.drewN wr nq = w2 at hS2 ⊢
          clear hSk c0 c1 fz
          obtain ⟨c0, c1, fz, _, _⟩ := id hS2
          go_quiet (fail)
          go_wp2_with fail
          go_roundg (s.size - (k + 1))
          case measure => omega
          case rel => exact ⟨k + 1, by omega, Nat.le_refl _, (hS2.set (k + 1) _ (by omega)).drewN _, HN.out⟩
      · have t1 : ((s[k].toNat : Int) == 32) = false := by rw [← hbk]; simp; omega
        have t2 : ((s[k].toNat : Int) == 9) = false := by rw [← hbk]; simp; omega
        have hz : (s.extract k s.size).size ≤ maxLen := by rw [size_from]; unfold maxLen; omega
        by_cases hpr : byt s k = 92 ∧ k + 1 < s.size ∧ byt s (k + 1) = 10
        · have HB := Sk.skip_pair (byt s) s.size k hpr.2.1 hpr.1 hpr.2.2
          have HN : Hid (Sk.skip (byt s) s.size p = Sk.skip (byt s) s.size (k + 2)) := HE.out.trans HB
          have C := fun w => hp (s.extract k s.size) w hz
          rw [hpB_yes s k hpr.2.1 hpr.1 hpr.2.2] at C
          have hk2 : k + 1 < s.size := hpr.2.1
          clear HB HE hbk hpr hb hz
          go_wp2_with fail
          go_quiet (fail)
          go_wp2_with fail
          have hS2 := hSk.drewN nq
          generalize World.drewN wr nq = w2 at hS2 ⊢
          clear hSk c0 c1 fz
          obtain ⟨c0, c1, fz, _, _⟩ := id hS2
          go_quiet (fail)
          go_wp2_with fail
          have hS3 := hS2.drewN nq
          generalize World.drewN w2 nq = w3 at hS3 ⊢
          clear hS2 c0 c1 fz
          obtain ⟨c0, c1, fz, _, _⟩ := id hS3
          go_quiet ((go_at_call 17; exact Calls.quiet_of_same (C _)))
          go_wp2_with fail
          go_roundg (s.size - (k + 2))
          case measure => omega
          case rel => exact ⟨k + 2, by omega, Nat.le_refl _, (hS3.set (k + 2) _ (by omega)).drewN _, HN.out⟩
        · have HB := Sk.skip_stop (byt s) s.size k hb hpr
          have HN : Hid (Sk.skip (byt s) s.size p = k) := HE.out.trans HB
          have C := fun w => hp (s.extract k s.size) w hz
          rw [hpB_no s k hpr] at C
          clear HB HE hbk hpr hb hz
          go_wp2_with fail
          go_quiet (fail)
          go_wp2_with fail
          have hS2 := hSk.drewN nq
          generalize World.drewN wr nq = w2 at hS2 ⊢
          clear hSk c0 c1 fz
          obtain ⟨c0, c1, fz, _, _⟩ := id hS2
          go_quiet (fail)
          go_wp2_with fail
          have hS3 := hS2.drewN nq
          generalize World.drewN w2 nq = w3 at hS3 ⊢
          clear hS2 c0 c1 fz
          obtain ⟨c0, c1, fz, _, _⟩ := id hS3
          go_quiet ((go_at_call 17; exact Calls.quiet_of_same (C _)))
          go_wp2_with fail
          refine bodyPost_ret (results_none rfl _ _ _) rfl ?_
          refine ⟨rfl, ?_⟩
          rw [HN.out]
          exact hS3.drewN _
    · have HN : Hid (Sk.skip (byt s) s.size p = k) := HE.out.trans (Sk.skip_end (byt s) s.size k (by omega))
      clear HE
      go_wp2_with fail
      go_quiet (fail)
      go_wp2
      go_end0
      refine ⟨rfl, ?_⟩
      rw [HN.out]
      exact hSk.drewN _

theorem st_new (w : World) (C : Array Value) (s : ByteArray) (p : Nat) (h0 : C[0]? = some (.string s)) (h1 : C[1]? = some (.int .i64 p)) : St w (w.alloc (.cells C 38)) w.heap.size s p :=
  ⟨by rw [World.cell?_alloc_new]; exact h0, by rw [World.cell?_alloc_new]; exact h1, World.frozen?_alloc_new _ _ _ _, Nat.le_refl _, Grown.alloc (Grown.refl _) _ _⟩

set_option maxHeartbeats 400000 in
theorem zz_skip (s : ByteArray) (p : Nat) (hs : s.size ≤ 1048576) (hp0 : p ≤ s.size) (w : World) :
    Calls Trym.prog 8 #[.string s, .int .i64 p] w fun e w' => e = .returned (.int .i64 (Sk.skip (byt s) s.size p)) ∧ Grown w w' := by
  go_enter Trym.func8, Trym.ntmps8
  go_wp2_with fail
  refine (skip_any w _ w.heap.size s p hs hp0 (st_new w _ s p rfl rfl)).mono ?_
  rintro e w1 ⟨rfl, hS⟩
  obtain ⟨c0, c1, fz, _, hg⟩ := id hS
  clear hS
  go_wp2
  go_ret
  exact ⟨rfl, hg⟩
end Go.Proofs.Qxb6618695aMods.Sb
