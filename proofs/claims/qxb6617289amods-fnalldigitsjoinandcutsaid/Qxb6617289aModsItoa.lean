import Derived.Test.Qxb6617289aModsRows
import Derived.WalkKit
import Derived.ProofKit
import Derived.Laws.IdiomStrings
namespace Go.Proofs.Qxb6617289aMods.It
open Go.ChangeShapes Go.WideShapes Go.ChangeAt Go.RowKit

/-- from place k on the cells hold digits -/
def Dig (A : Array Value) (k : Nat) : Prop := A.size = 20 ∧ ∀ j, k ≤ j → j < 20 → ∃ c : Int, 48 ≤ c ∧ c ≤ 57 ∧ A[j]? = some (.int .u8 c)

/-- so many places serve for m -/
def Fits (m k : Nat) : Prop := m < 10 ^ k

theorem fits_div {m k : Nat} (h : Fits m (k + 1)) : Fits (m / 10) k := by
  unfold Fits at *
  rw [Nat.pow_succ] at h
  exact Nat.div_lt_of_lt_mul (by rw [Nat.mul_comm]; exact h)

theorem fits_pos {m k : Nat} (h : Fits m k) (hm : m ≠ 0) : ∃ j, k = j + 1 := by
  cases k with
  | zero => unfold Fits at h; simp at h; exact absurd h hm
  | succ j => exact ⟨j, rfl⟩

theorem dig_set {A : Array Value} {k : Nat} (h : Dig A (k + 1)) (hk : k < 20) (c : Int) (h0 : 48 ≤ c) (h1 : c ≤ 57) : Dig (A.setIfInBounds k (.int .u8 c)) k := by
  refine ⟨by simp [h.1], fun j hj hj2 => ?_⟩
  by_cases e : j = k
  · subst e; exact ⟨c, h0, h1, by simp [h.1, hk]⟩
  · obtain ⟨c', a, b, hc⟩ := h.2 j (by omega) hj2
    exact ⟨c', a, b, by rw [Array.getElem?_setIfInBounds_ne (by omega)]; exact hc⟩

def byteOf (A : Array Value) (j : Nat) : UInt8 :=
  match A[j]? with
  | some (.int _ c) => UInt8.ofNat c.toNat
  | _ => 0

theorem byteOf_eq {A : Array Value} {j : Nat} {c : Int} (h : A[j]? = some (.int .u8 c)) (h0 : 48 ≤ c) (h1 : c ≤ 57) : ((byteOf A j).toNat : Int) = c := by
  unfold byteOf
  rw [h]
  simp only [UInt8.toNat_ofNat']
  omega

theorem dig_list {A : Array Value} {k : Nat} (h : Dig A k) (hk : k < 20) :
    ∃ l : List UInt8, l.length = 20 - k ∧ (∀ c ∈ l, 48 ≤ c.toNat ∧ c.toNat ≤ 57) ∧ ∀ j (hj : j < l.length), A[k + j]? = some (.int .u8 (l[j].toNat : Int)) := by
  refine ⟨(List.range (20 - k)).map fun j => byteOf A (k + j), by simp, fun c hc => ?_, fun j hj => ?_⟩
  · obtain ⟨j, hj, rfl⟩ := List.mem_map.1 hc
    have hj := List.mem_range.1 hj
    obtain ⟨d, h0, h1, hd⟩ := h.2 (k + j) (by omega) (by omega)
    have := byteOf_eq hd h0 h1
    omega
  · have hj' : j < 20 - k := by simpa using hj
    obtain ⟨d, h0, h1, hd⟩ := h.2 (k + j) (by omega) (by omega)
    have := byteOf_eq hd h0 h1
    simp only [List.getElem_map, List.getElem_range]
    rw [this]
    exact hd

theorem wrap_div (m : Nat) (h : m < 18446744073709551616) : IntKind.u64.wrap ((m : Int) / 10) = ((m / 10 : Nat) : Int) := by
  rw [IntKind.wrap_u64]
  omega

theorem len34 : Trym.prog.arrayLen 34 = 20 := by kernel_rfl
theorem und34 : Trym.prog.underlying 34 = some (.array (Trym.prog.arrayLen 34) (Trym.prog.elem 34)) := by kernel_rfl
theorem size34 (w : World) : (sizeOf (Trym.prog.elem 34)).run Trym.prog w = .ok 1 w := by kernel_rfl

theorem slice34 (b k : Nat) (hk : k < 20) (w : World) :
    (Instr.sliceAt 34 (.pointer (some ⟨b, 0, none⟩)) (some (.int .i64 k)) none none).run Trym.prog w = .ok (.slice (some ⟨b, k, none⟩) (20 - k) (20 - k)) w := by
  rw [run_sliceAt_array_l w 34 _ und34 .i64 k (by omega) (by rw [len34]; omega), size34, len34]
  simp [slicedAt, Addr.add, show ¬ 20 = k from by omega]
  exact fun h => h.symm

set_option maxHeartbeats 400000 in
/-- itoaU64: some digits, at least one, at most twenty. -/
theorem itoa_any (n : Nat) (hn : n < 18446744073709551616) (w : World) :
    Calls Trym.prog 9 #[.int .u64 n] w fun e w' => ∃ l : List UInt8, e = .returned (.string ⟨l.toArray⟩) ∧ 0 < l.length ∧ l.length ≤ 20 ∧ (∀ c ∈ l, 48 ≤ c.toNat ∧ c.toNat ≤ 57) ∧ Grown w w' := by
  have hN : Fits n 20 ∧ n ≤ n := ⟨by unfold Fits; omega, Nat.le_refl _⟩
  have HB : Hid (n < 18446744073709551616) := hn
  clear hn
  go_enter Trym.func9, Trym.ntmps9
  go_wp2
  go_loopw [0, 4] (fun vn vi wr => ∃ (m k : Nat) (A : Array Value), k < 20 ∧ vn = .int .u64 m ∧ vi = .int .i64 (k + 1) ∧ Fits m (k + 1) ∧ m ≤ n ∧ Dig A (k + 1) ∧ wr = w.alloc (.cells A 34)) (fun _ vi _ => (intOf vi).toNat)
  case atStart => exact ⟨n, 19, _, by omega, rfl, rfl, hN.1, hN.2, ⟨rfl, fun j h1 h2 => by omega⟩, rfl⟩
  case round =>
    obtain ⟨m, k, A, hk, rfl, rfl, hf, hmn, hd, rfl⟩ := hrel
    obtain ⟨v, hv⟩ : ∃ v, A[k]? = some v := ⟨A[k]'(by rw [hd.1]; exact hk), by simp⟩
    have hd2 := dig_set hd hk (48 + (m : Int) % 10) (by omega) (by omega)
    obtain ⟨l, hl, hl2, hl3⟩ := dig_list hd2 hk
    have hsl := slice34 w.heap.size k hk
    have hcv := run_convert_bytes_back (P := Trym.prog) (w.alloc (.cells (A.setIfInBounds k (.int .u8 (48 + (m : Int) % 10))) 34)) 35 9 5 ⟨w.heap.size, k, none⟩ (20 - k) l Trym.underlying35 Trym.underlying5 Trym.underlying9
      (fun j hj => by rw [show (⟨w.heap.size, k, none⟩ : Addr).add j = ⟨w.heap.size, k + j, none⟩ from by simp [Addr.add], World.cell?_alloc_new]; exact hl3 j hj)
    rw [hl] at hcv
    obtain ⟨q, hq⟩ : ∃ q : Nat, q = m / 10 := ⟨_, rfl⟩
    have hw : IntKind.u64.wrap ((m : Int) / 10) = (q : Int) := by rw [hq]; exact wrap_div m (by have := HB.out; omega)
    have hfq : Fits q k := by rw [hq]; exact fits_div hf
    have hqn : q ≤ n := by omega
    clear hq hl3 hf hd
    go_wp2
    · go_ret
      exact ⟨l, rfl, by omega, by omega, hl2, Grown.alloc (Grown.refl _) _ _⟩
    · go_roundw
      case rel =>
        have hq0 : q ≠ 0 := by
          intro h
          have ht : ((q : Int) == 0) = false := by assumption
          simp [h] at ht
        obtain ⟨j, rfl⟩ := fits_pos hfq hq0
        exact ⟨q, j, _, by omega, rfl, by go_num, hfq, hqn, hd2, rfl⟩
      case measure => simp [intOf]
end Go.Proofs.Qxb6617289aMods.It
