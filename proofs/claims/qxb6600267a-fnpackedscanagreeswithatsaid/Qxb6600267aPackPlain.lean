/-
  THE PLAIN LAW OF THE PACKED FORM: no Go in sight.
-/
namespace Go.Proofs.Qxb6600267a.Pk

/-- A varint, of at most f + 1 bytes. -/
def uv : Nat → Nat → List UInt8
  | 0, n => [UInt8.ofNat n]
  | f + 1, n => if n < 128 then [UInt8.ofNat n] else UInt8.ofNat (n % 128 + 128) :: uv f (n / 128)

theorem uv_len (f n : Nat) : (uv f n).length ≤ f + 1 := by
  induction f generalizing n with
  | zero => simp [uv]
  | succ f ih =>
    unfold uv
    split
    · simp
    · have := ih (n / 128); simp; omega

theorem uv_small (f n : Nat) (h : n < 128) : uv f n = [UInt8.ofNat n] := by
  cases f with
  | zero => rfl
  | succ f => simp [uv, h]

theorem uv_big (f n : Nat) (h : ¬ n < 128) : uv (f + 1) n = UInt8.ofNat (n % 128 + 128) :: uv f (n / 128) := by
  simp [uv, h]

/-- How many bytes at their heads two lists share. -/
def cp : List UInt8 → List UInt8 → Nat
  | a :: x, b :: y => if a = b then cp x y + 1 else 0
  | _, _ => 0

theorem cp_le_left (a b : List UInt8) : cp a b ≤ a.length := by
  induction a generalizing b with
  | nil => simp [cp]
  | cons x a ih =>
    cases b with
    | nil => simp [cp]
    | cons y b =>
      unfold cp
      split
      · have := ih b; simp; omega
      · simp

theorem cp_le_right (a b : List UInt8) : cp a b ≤ b.length := by
  induction a generalizing b with
  | nil => simp [cp]
  | cons x a ih =>
    cases b with
    | nil => simp [cp]
    | cons y b =>
      unfold cp
      split
      · have := ih b; simp; omega
      · simp

theorem cp_take (a b : List UInt8) : ∀ k, k ≤ cp a b → a.take k = b.take k := by
  induction a generalizing b with
  | nil => intro k hk; have : k = 0 := by simpa [cp] using hk
           subst this; simp
  | cons x a ih =>
    intro k hk
    cases b with
    | nil => have : k = 0 := by simpa [cp] using hk
             subst this; simp
    | cons y b =>
      unfold cp at hk
      split at hk
      · rename_i e
        subst e
        cases k with
        | zero => simp
        | succ k => simp [ih b k (by omega)]
      · have : k = 0 := by omega
        subst this; simp

theorem cp_eq (a b : List UInt8) (k : Nat) (h1 : a.take k = b.take k) (ha : k ≤ a.length) (hb : k ≤ b.length) (h : k = a.length ∨ k = b.length ∨ a[k]? ≠ b[k]?) : cp a b = k := by
  induction a generalizing b k with
  | nil =>
    have : k = 0 := by simpa using ha
    subst this; simp [cp]
  | cons x a ih =>
    cases b with
    | nil =>
      have : k = 0 := by simpa using hb
      subst this; simp [cp]
    | cons y b =>
      cases k with
      | zero =>
        unfold cp
        rcases h with h | h | h
        · simp at h
        · simp at h
        · rw [if_neg]; simpa using h
      | succ k =>
        simp only [List.take_succ_cons, List.cons.injEq] at h1
        unfold cp
        rw [if_pos h1.1, ih b k h1.2 (by simpa using ha) (by simpa using hb) (by simpa using h)]

/-- The bytes of the i-th string. -/
def st (ss : List ByteArray) (i : Nat) : List UInt8 := (ss.getD i ByteArray.empty).data.toList

/-- The head of an entry. -/
def hdr (sh n : Nat) : List UInt8 := if sh < 15 ∧ n < 16 then [UInt8.ofNat (sh * 16 + n)] else 240 :: (uv 3 sh ++ uv 3 n)

theorem hdr_len (sh n : Nat) : 1 ≤ (hdr sh n).length ∧ (hdr sh n).length ≤ 9 := by
  unfold hdr
  split
  · simp
  · have := uv_len 3 sh; have := uv_len 3 n; simp; omega

section
variable (ss : List ByteArray) (pb : Nat) (cap : Int)

/-- How much the i-th string shares with the one before it, in the packed form. -/
def sh (i : Nat) : Nat := if i % pb = 0 then 0 else (min (cp (st ss (i - 1)) (st ss i) : Int) cap).toNat

def ent (i : Nat) : List UInt8 := hdr (sh ss pb cap i) ((st ss i).length - sh ss pb cap i) ++ (st ss i).drop (sh ss pb cap i)

def buf : Nat → List UInt8
  | 0 => []
  | k + 1 => buf k ++ ent ss pb cap k

def pos (i : Nat) : Nat := (buf ss pb cap i).length

def blk : Nat → List Nat
  | 0 => []
  | k + 1 => if k % pb = 0 then blk k ++ [pos ss pb cap k] else blk k

theorem sh_le_cp (i : Nat) : sh ss pb cap i ≤ cp (st ss (i - 1)) (st ss i) := by
  unfold sh; split <;> omega
theorem sh_le (i : Nat) : sh ss pb cap i ≤ (st ss i).length := Nat.le_trans (sh_le_cp ss pb cap i) (cp_le_right _ _)
theorem sh_le' (i : Nat) : sh ss pb cap i ≤ (st ss (i - 1)).length := Nat.le_trans (sh_le_cp ss pb cap i) (cp_le_left _ _)
theorem sh_take (i : Nat) : (st ss (i - 1)).take (sh ss pb cap i) = (st ss i).take (sh ss pb cap i) := cp_take _ _ _ (sh_le_cp ss pb cap i)
theorem sh_zero (i : Nat) (h : i % pb = 0) : sh ss pb cap i = 0 := by simp [sh, h]

theorem ent_len (i : Nat) : (ent ss pb cap i).length ≤ 9 + (st ss i).length := by
  have := hdr_len (sh ss pb cap i) ((st ss i).length - sh ss pb cap i)
  unfold ent; simp; omega
theorem ent_pos (i : Nat) : 1 ≤ (ent ss pb cap i).length := by
  have := hdr_len (sh ss pb cap i) ((st ss i).length - sh ss pb cap i)
  unfold ent; simp; omega

theorem pos_succ (i : Nat) : pos ss pb cap (i + 1) = pos ss pb cap i + (ent ss pb cap i).length := by simp [pos, buf]

/-- The bytes of the first k strings. -/
def tot : Nat → Nat
  | 0 => 0
  | k + 1 => tot k + (st ss k).length

theorem tot_mono (i k : Nat) (h : i ≤ k) : tot ss i ≤ tot ss k := by
  induction k with
  | zero => have : i = 0 := by omega
            subst this; exact Nat.le_refl _
  | succ k ih =>
    by_cases e : i = k + 1
    · subst e; exact Nat.le_refl _
    · have := ih (by omega); simp only [tot]; omega

theorem pos_le (k : Nat) : pos ss pb cap k ≤ 9 * k + tot ss k := by
  induction k with
  | zero => simp [pos, buf]
  | succ k ih =>
    have := ent_len ss pb cap k
    rw [pos_succ]; simp only [tot]; omega

theorem pos_ge (k : Nat) : k ≤ pos ss pb cap k := by
  induction k with
  | zero => simp
  | succ k ih =>
    have := ent_pos ss pb cap k
    rw [pos_succ]; omega

theorem buf_drop (n : Nat) : ∀ i, i < n → ∃ tail, (buf ss pb cap n).drop (pos ss pb cap i) = ent ss pb cap i ++ tail := by
  induction n with
  | zero => intro i h; omega
  | succ n ih =>
    intro i h
    by_cases e : i = n
    · subst e
      exact ⟨[], by simp [buf, pos]⟩
    · obtain ⟨tail, ht⟩ := ih i (by omega)
      have hle : pos ss pb cap i ≤ (buf ss pb cap n).length := by
        have h1 : (buf ss pb cap n).drop (pos ss pb cap i) ≠ [] := by
          rw [ht]; intro h0
          have h3 := congrArg List.length h0
          have h2 := ent_pos ss pb cap i
          rw [List.length_append, List.length_nil] at h3; omega
        rcases Nat.lt_or_ge (pos ss pb cap i) (buf ss pb cap n).length with g | g
        · omega
        · exact absurd (List.drop_eq_nil_of_le g) h1
      refine ⟨tail ++ ent ss pb cap n, ?_⟩
      simp only [buf]
      rw [List.drop_append_of_le_length hle, ht, List.append_assoc]

/-- The blocks: as many as begin ahead of k, each where it begins. -/
theorem blk_at (hp : 0 < pb) (k : Nat) : (k ≤ (blk ss pb cap k).length * pb) ∧ (∀ j, j < (blk ss pb cap k).length → j * pb < k ∧ (blk ss pb cap k)[j]? = some (pos ss pb cap (j * pb))) := by
  induction k with
  | zero => exact ⟨Nat.zero_le _, fun j hj => by simp [blk] at hj⟩
  | succ k ih =>
    obtain ⟨h1, h2⟩ := ih
    have hd := Nat.div_add_mod k pb
    have hm := Nat.mod_lt k hp
    unfold blk
    by_cases e : k % pb = 0
    · rw [if_pos e]
      have hk : k = (k / pb) * pb := by rw [Nat.mul_comm]; omega
      have hq : k / pb = (blk ss pb cap k).length := by
        have a1 : k / pb ≤ (blk ss pb cap k).length := by
          have h3 : (k / pb) * pb ≤ (blk ss pb cap k).length * pb := by omega
          exact Nat.le_of_mul_le_mul_right h3 hp
        have a2 : ¬ k / pb < (blk ss pb cap k).length := by
          intro g
          have := (h2 _ g).1
          omega
        omega
      refine ⟨?_, fun j hj => ?_⟩
      · simp only [List.length_append, List.length_cons, List.length_nil]
        rw [Nat.add_mul, ← hq, ← hk]; omega
      · simp only [List.length_append, List.length_cons, List.length_nil] at hj
        by_cases ej : j = (blk ss pb cap k).length
        · subst ej
          rw [← hq, ← hk]
          exact ⟨by omega, by rw [hq]; simp⟩
        · have := h2 j (by omega)
          exact ⟨by omega, by rw [List.getElem?_append_left (by omega)]; exact this.2⟩
    · rw [if_neg e]
      refine ⟨?_, fun j hj => ?_⟩
      · have hne : k ≠ (blk ss pb cap k).length * pb := by
          intro g
          apply e
          rw [g]; exact Nat.mul_mod_left _ _
        omega
      · have := h2 j hj
        exact ⟨by omega, this.2⟩

theorem blk_get (hp : 0 < pb) (n i : Nat) (h : i < n) : i / pb < (blk ss pb cap n).length ∧ (blk ss pb cap n)[i / pb]? = some (pos ss pb cap (i / pb * pb)) := by
  obtain ⟨h1, h2⟩ := blk_at ss pb cap hp n
  have hl : i / pb < (blk ss pb cap n).length := by
    rw [Nat.div_lt_iff_lt_mul hp]; omega
  exact ⟨hl, (h2 _ hl).2⟩

theorem blk_len (k : Nat) : (blk ss pb cap k).length ≤ k := by
  induction k with
  | zero => simp [blk]
  | succ k ih => unfold blk; split <;> (try simp only [List.length_append, List.length_cons, List.length_nil]) <;> omega

end
end Go.Proofs.Qxb6600267a.Pk
