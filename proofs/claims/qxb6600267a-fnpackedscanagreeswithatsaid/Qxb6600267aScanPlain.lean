/-
  THE PLAIN LAW OF THE SCAN: no Go in sight.
-/
import Derived.Test.Qxb6600267aPackPlain
import GoSem.Op.String
namespace Go.Proofs.Qxb6600267a.Pk

/-- How a compares with s. -/
def ord (a s : List UInt8) : Int := if a = s then 0 else if Go.Op.bytesLess a s then -1 else 1

theorem less_self (a : List UInt8) : Go.Op.bytesLess a a = false := by
  induction a with
  | nil => rfl
  | cons x a ih => simp [Go.Op.bytesLess, ih]

theorem ord_neg (a s : List UInt8) : ord a s < 0 ↔ Go.Op.bytesLess a s = true := by
  unfold ord
  by_cases h : a = s
  · subst h; simp [less_self]
  · rw [if_neg h]
    cases e : Go.Op.bytesLess a s <;> simp

theorem ord_zero (a s : List UInt8) : ord a s = 0 ↔ a = s := by
  unfold ord
  by_cases h : a = s
  · simp [h]
  · rw [if_neg h]
    cases e : Go.Op.bytesLess a s <;> simp [h]

/-- Its sign, read off the first place where the two part. -/
theorem ord_char (a s : List UInt8) : ord a s = if cp a s = a.length ∧ cp a s = s.length then 0 else if cp a s = a.length then -1 else if cp a s = s.length ∨ s.getD (cp a s) 0 < a.getD (cp a s) 0 then 1 else -1 := by
  induction a generalizing s with
  | nil =>
    cases s with
    | nil => simp [ord, cp]
    | cons y s => simp [ord, cp, Go.Op.bytesLess]
  | cons x a ih =>
    cases s with
    | nil => simp [ord, cp, Go.Op.bytesLess]
    | cons y s =>
      by_cases e : x = y
      · subst e
        have h1 : ord (x :: a) (x :: s) = ord a s := by
          unfold ord
          simp [Go.Op.bytesLess]
        have h2 : cp (x :: a) (x :: s) = cp a s + 1 := by simp [cp]
        rw [h1, h2, ih s]
        simp
      · have h2 : cp (x :: a) (y :: s) = 0 := by simp [cp, e]
        rw [h2]
        unfold ord
        have hne : ¬ (x :: a = y :: s) := by intro h; exact e (List.cons.inj h).1
        rw [if_neg hne]
        simp only [Go.Op.bytesLess]
        by_cases hl : x < y
        · have hl' : ¬ y < x := by
            intro g
            have := UInt8.lt_iff_toNat_lt.1 hl
            have := UInt8.lt_iff_toNat_lt.1 g
            omega
          simp [hl, hl']
        · have hl' : y < x := by
            have h3 : ¬ x.toNat < y.toNat := fun g => hl (UInt8.lt_iff_toNat_lt.2 g)
            have h4 : x.toNat ≠ y.toNat := fun g => e (UInt8.toNat_inj.1 g)
            exact UInt8.lt_iff_toNat_lt.2 (by omega)
          have hb : (x == y) = false := by simpa using e
          simp [hl, hl', hb]

theorem cp_shift (k : Nat) (a s : List UInt8) (h : a.take k = s.take k) (ha : k ≤ a.length) (hs : k ≤ s.length) : cp a s = k + cp (a.drop k) (s.drop k) := by
  induction k generalizing a s with
  | zero => simp
  | succ k ih =>
    match a, s, ha, hs with
    | x :: a, y :: s, ha, hs =>
      simp only [List.take_succ_cons, List.cons.injEq] at h
      simp only [List.drop_succ_cons]
      unfold cp
      rw [if_pos h.1, ih a s h.2 (by simpa using ha) (by simpa using hs)]
      rw [Nat.add_right_comm]
      cases hd : a.drop k <;> cases hd' : s.drop k <;> simp [cp]

/-- A string that shares more with the one before than that one shares with s compares alike. -/
theorem ord_keep (k : Nat) (cur prev s : List UInt8) (h : prev.take k = cur.take k) (hc : k ≤ cur.length) (hp : k ≤ prev.length) (hk : cp prev s < k) : cp cur s = cp prev s ∧ ord cur s = ord prev s := by
  have hs := cp_le_right prev s
  have htk : prev.take (cp prev s) = cur.take (cp prev s) := by
    have := congrArg (List.take (cp prev s)) h
    rw [List.take_take, List.take_take, Nat.min_eq_left (by omega)] at this
    exact this
  have hget : prev[cp prev s]? = cur[cp prev s]? := by
    have := congrArg (fun l => l[cp prev s]?) h
    simp only [List.getElem?_take] at this
    rw [if_pos hk, if_pos hk] at this
    exact this
  have hmax : cp prev s = s.length ∨ prev[cp prev s]? ≠ s[cp prev s]? := by
    by_cases e : cp prev s = s.length
    · exact .inl e
    · right
      intro g
      have h1 : prev.take (cp prev s + 1) = s.take (cp prev s + 1) := by
        rw [List.take_add_one, List.take_add_one, cp_take prev s _ (Nat.le_refl _), g]
      have h2 := cp_shift (cp prev s + 1) prev s h1 (by omega) (by omega)
      omega
  have e1 : cp cur s = cp prev s := by
    refine cp_eq cur s (cp prev s) ?_ (by omega) hs ?_
    · rw [← htk]; exact cp_take prev s _ (Nat.le_refl _)
    · rcases hmax with g | g
      · exact .inr (.inl g)
      · right; right; rw [← hget]; exact g
  refine ⟨e1, ?_⟩
  have h1 : ¬ cp prev s = prev.length := by omega
  have h2 : ¬ cp prev s = cur.length := by omega
  have hg : prev.getD (cp prev s) 0 = cur.getD (cp prev s) 0 := by simp only [List.getD]; rw [hget]
  rw [ord_char cur s, ord_char prev s, e1, hg]
  simp [h1, h2]

end Go.Proofs.Qxb6600267a.Pk
