/-! THE PLAIN LAW of 'all digits': lists of bytes; no Go in sight. -/
namespace Go.Proofs.Qxb6617289aMods.Dp

def isDig (c : UInt8) : Bool := decide (48 ≤ c.toNat) && decide (c.toNat ≤ 57)

/-- decimal.allDigits -/
def adig (l : List UInt8) : Bool := !l.isEmpty && l.all isDig

theorem isDig_true {c : UInt8} (h : 48 ≤ c.toNat ∧ c.toNat ≤ 57) : isDig c = true := by
  simp [isDig, h.1, h.2]

theorem all_digs {l : List UInt8} (h : ∀ c ∈ l, 48 ≤ c.toNat ∧ c.toNat ≤ 57) : l.all isDig = true :=
  List.all_eq_true.2 fun c hc => isDig_true (h c hc)

theorem adig_of {l : List UInt8} (h0 : 0 < l.length) (h : l.all isDig = true) : adig l = true := by
  cases l with
  | nil => simp at h0
  | cons a t => simp [adig] at *; exact h

theorem adig_nil : adig [] = false := rfl

theorem adig_front {d : List UInt8} (h0 : 0 < d.length) (h : d.all isDig = true) (s : List UInt8) : adig (d ++ s) = s.all isDig := by
  cases d with
  | nil => simp at h0
  | cons a t =>
    have h' : (a :: t).all isDig = true := h
    simp only [adig, List.all_append, h', Bool.true_and]
    simp

theorem adig_back {d : List UInt8} (h0 : 0 < d.length) (h : d.all isDig = true) (s : List UInt8) : adig (s ++ d) = s.all isDig := by
  cases d with
  | nil => simp at h0
  | cons a t =>
    have h' : (a :: t).all isDig = true := h
    simp only [adig, List.all_append, h', Bool.and_true]
    simp

theorem adig_ne {s : List UInt8} (h : s ≠ []) : adig s = s.all isDig := by
  cases s with
  | nil => exact absurd rfl h
  | cons a t => simp [adig]

theorem adig_mid (a b : List UInt8) (c : UInt8) (h : isDig c = false) : adig (a ++ [c] ++ b) = false := by
  simp [adig, h]

theorem adig_cut (s : List UInt8) (i : Nat) (h0 : 0 < i) (h1 : i < s.length) : adig s = (adig (s.take i) && adig (s.drop i)) := by
  have e1 : s ≠ [] := by intro h; subst h; simp at h1
  have e2 : s.take i ≠ [] := by intro h; have := congrArg List.length h; rw [List.length_take, List.length_nil] at this; omega
  have e3 : s.drop i ≠ [] := by intro h; have := congrArg List.length h; rw [List.length_drop, List.length_nil] at this; omega
  rw [adig_ne e1, adig_ne e2, adig_ne e3, ← List.all_append, List.take_append_drop]

end Go.Proofs.Qxb6617289aMods.Dp
