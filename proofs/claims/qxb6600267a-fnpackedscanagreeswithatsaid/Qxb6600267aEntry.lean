/-
  THE WALKS OF uvarintAt AND (*packedStrings).entry.
-/
import Derived.Test.Qxb6600267aPack12
namespace Go.Proofs.Qxb6600267a
open Go.RowKit

theorem head_at {s : ByteArray} {q : Nat} {b : UInt8} {r : List UInt8} (h : s.data.toList.drop q = b :: r) : ∃ hq : q < s.size, s[q] = b ∧ s.data.toList.drop (q + 1) = r := by
  have hq : q < s.data.toList.length := by
    rcases Nat.lt_or_ge q s.data.toList.length with g | g
    · exact g
    · rw [List.drop_eq_nil_of_le g] at h; cases h
  have hq' : q < s.size := by simpa using hq
  rw [List.drop_eq_getElem_cons hq] at h
  simp only [List.cons.injEq] at h
  exact ⟨hq', h.1, h.2⟩

/-- A varint that is being read. -/
def UvAt (s : ByteArray) (p f n : Nat) (tail : List UInt8) (j m g q acc : Nat) : Prop :=
  s.data.toList.drop q = Pk.uv g m ++ tail ∧ q + (Pk.uv g m).length = p + (Pk.uv f n).length ∧ m < 128 ^ (g + 1) ∧ acc < 2 ^ (7 * j) ∧ acc + m * 2 ^ (7 * j) = n ∧ (j = 0 ∨ 1 ≤ m)

theorem UvAt.last {s : ByteArray} {p f n : Nat} {tail : List UInt8} {j m g q acc : Nat} (h : UvAt s p f n tail j m g q acc) (hm : m < 128) : ∃ hq : q < s.size, s[q].toNat = m ∧ q + 1 = p + (Pk.uv f n).length := by
  obtain ⟨h1, h2, _⟩ := h
  rw [Pk.uv_small _ _ hm] at h1 h2
  obtain ⟨hq, hb, _⟩ := head_at h1
  exact ⟨hq, by rw [hb, UInt8.toNat_ofNat']; omega, by simpa using h2⟩

theorem UvAt.next {s : ByteArray} {p f n : Nat} {tail : List UInt8} {j m g q acc : Nat} (h : UvAt s p f n tail j m g q acc) (hm : ¬ m < 128) : ∃ hq : q < s.size, s[q].toNat = m % 128 + 128 ∧
    ∃ g', UvAt s p f n tail (j + 1) (m / 128) g' (q + 1) (acc + m % 128 * 2 ^ (7 * j)) := by
  obtain ⟨h1, h2, h3, h4, h5, _⟩ := h
  cases g with
  | zero => simp at h3; omega
  | succ g =>
    rw [Pk.uv_big _ _ hm] at h1 h2
    obtain ⟨hq, hb, hr⟩ := head_at (r := Pk.uv g (m / 128) ++ tail) (by rw [h1]; rfl)
    refine ⟨hq, by rw [hb, UInt8.toNat_ofNat']; omega, g, hr, ?_, ?_, ?_, ?_, ?_⟩
    · simp only [List.length_cons] at h2; omega
    · rw [Nat.pow_succ] at h3; exact Nat.div_lt_of_lt_mul (by omega)
    · have e : 2 ^ (7 * (j + 1)) = 2 ^ (7 * j) * 128 := by rw [Nat.mul_add, Nat.pow_add]
      have h6 : m % 128 * 2 ^ (7 * j) ≤ 127 * 2 ^ (7 * j) := Nat.mul_le_mul_right _ (by omega)
      rw [e]; omega
    · have e : 2 ^ (7 * (j + 1)) = 128 * 2 ^ (7 * j) := by rw [Nat.mul_add, Nat.pow_add, Nat.mul_comm]
      rw [e, ← Nat.mul_assoc, Nat.add_assoc, ← Nat.add_mul, show m % 128 + m / 128 * 128 = m by omega]
      exact h5
    · right; omega

theorem UvAt.small {s : ByteArray} {p f n : Nat} {tail : List UInt8} {j m g q acc : Nat} (h : UvAt s p f n tail j m g q acc) (hn : n ≤ 1048576) : j ≤ 2 ∧ acc ≤ 1048576 ∧ m ≤ 1048576 := by
  obtain ⟨_, _, _, h4, h5, h6⟩ := h
  have hp : 1 ≤ 2 ^ (7 * j) := Nat.one_le_two_pow
  have hm : m * 1 ≤ m * 2 ^ (7 * j) := Nat.mul_le_mul_left _ hp
  refine ⟨?_, by omega, by omega⟩
  rcases h6 with e | e
  · omega
  · rcases Nat.lt_or_ge 2 j with hj | hj
    · have h7 : 2 ^ 21 ≤ 2 ^ (7 * j) := Nat.pow_le_pow_right (by decide) (by omega)
      have h8 : 1 * 2 ^ (7 * j) ≤ m * 2 ^ (7 * j) := Nat.mul_le_mul_right _ e
      omega
    · exact hj

theorem or_step (acc x i : Nat) (h1 : acc < 2 ^ i) (h2 : x * 2 ^ i ≤ 1048576 * 2) (h3 : acc ≤ 1048576) : bits .or .u64 (acc : Int) (IntKind.u64.wrap ((x : Int) * 2 ^ i)) = ((acc + x * 2 ^ i : Nat) : Int) := by
  have e : ((x : Int) * 2 ^ i) = ((x * 2 ^ i : Nat) : Int) := by simp
  have ew : IntKind.u64.wrap ((x : Int) * 2 ^ i) = ((x * 2 ^ i : Nat) : Int) := by rw [e, IntKind.wrap_u64]; omega
  rw [ew, u64_or_nat _ _ (by omega) (by omega)]
  congr 1
  rw [Nat.or_comm, nat_join i _ _ (Nat.mul_mod_left _ _) h1]
  omega

theorem mask127 (c : Nat) (h : c < 256) : bits .and .u8 (c : Int) 127 = ((c % 128 : Nat) : Int) := by
  have := u8_and_nat c 127 h (by decide)
  refine this.trans ?_
  rw [nat_mask7]

theorem or_whole (acc c i : Nat) (hc : c < 256) (h1 : acc < 2 ^ i) (h2 : c % 128 * 2 ^ i ≤ 1048576 * 2) (h3 : acc ≤ 1048576) :
    bits .or .u64 (acc : Int) (IntKind.u64.wrap (IntKind.u64.wrap (bits .and .u8 (c : Int) 127) * 2 ^ i)) = ((acc + c % 128 * 2 ^ i : Nat) : Int) := by
  have e : IntKind.u64.wrap (bits .and .u8 (c : Int) 127) = ((c % 128 : Nat) : Int) := by rw [mask127 c hc, IntKind.wrap_u64]; omega
  rw [e]
  exact or_step acc (c % 128) i h1 h2 h3

theorem UvAt.val {s : ByteArray} {p f n : Nat} {tail : List UInt8} {j m g q acc : Nat} (h : UvAt s p f n tail j m g q acc) (hn : n ≤ 1048576) (c : UInt8) (hc : c.toNat % 128 = m % 128) :
    bits .or .u64 (acc : Int) (IntKind.u64.wrap (IntKind.u64.wrap (bits .and .u8 (c.toNat : Int) 127) * 2 ^ (7 * j))) = ((acc + m % 128 * 2 ^ (7 * j) : Nat) : Int) := by
  obtain ⟨_, _, _, h4, h5, h6⟩ := h
  have h7 : m % 128 * 2 ^ (7 * j) ≤ m * 2 ^ (7 * j) := Nat.mul_le_mul_right _ (Nat.mod_le _ _)
  rw [or_whole acc c.toNat (7 * j) c.toNat_lt h4 (by rw [hc]; omega) (by omega), hc]

theorem UvAt.sum {s : ByteArray} {p f n : Nat} {tail : List UInt8} {j m g q acc : Nat} (h : UvAt s p f n tail j m g q acc) (hm : m < 128) : acc + m % 128 * 2 ^ (7 * j) = n := by
  obtain ⟨_, _, _, h4, h5, h6⟩ := h
  rw [Nat.mod_eq_of_lt hm]; exact h5

theorem ba_eq {y : ByteArray} {r : List UInt8} (e : y.data.toList = r) : y = ⟨r.toArray⟩ := by
  subst e
  cases y
  simp

theorem ret_three {a b c d : Int} {x y : ByteArray} (h : a = b) (hx : x = y) (h' : c = d) : Ending.returned (.tuple #[.int .i64 a, .string x, .int .i64 c]) = .returned (.tuple #[.int .i64 b, .string y, .int .i64 d]) := by rw [h, hx, h']

theorem ret_two {k l : IntKind} {a b c d : Int} (h : a = b) (h' : c = d) : Ending.returned (.tuple #[.int k a, .int l c]) = .returned (.tuple #[.int k b, .int l d]) := by rw [h, h']

set_option maxHeartbeats 800000 in
set_option maxRecDepth 100000 in
theorem uva28_any (s : ByteArray) (p f n : Nat) (tail : List UInt8) (w : World) (H : UvAt s p f n tail 0 n f p 0) (hn : n ≤ 1048576) (hs : s.size ≤ 4194304) :
    Calls Try.prog 28 #[.string s, .int .i64 p] w fun e w' => e = .returned (.tuple #[.int .u64 n, .int .i64 (p + (Pk.uv f n).length : Nat)]) ∧ w' = w := by
  go_enter Try.func28, Try.ntmps28
  go_wp2
  go_loop [6, 7, 8] (fun v sh a => ∃ (j m g q acc : Nat), v = .int .u64 acc ∧ sh = .int .i64 (7 * j : Nat) ∧ a = .int .i64 q ∧ UvAt s p f n tail j m g q acc) (fun _ _ a => s.size - (intOf a).toNat)
  case atStart => exact ⟨0, n, f, p, 0, rfl, rfl, rfl, H⟩
  case round =>
    obtain ⟨j, m, g, q, acc, rfl, rfl, rfl, hU⟩ := hrel
    obtain ⟨hj, ha, hm⟩ := hU.small hn
    by_cases hlt : m < 128
    · obtain ⟨hq, hb, he⟩ := hU.last hlt
      have h1 : (q : Int) < (s.size : Int) := by omega
      have HB : Hid (s[q].toNat = m) := hb
      have hb1 : (s[q].toNat : Int) < 128 := by omega
      clear hb
      go_wp2
      go_ret2
      exact ⟨ret_two (by rw [hU.val hn s[q] (by rw [HB.out]), hU.sum hlt]) (by omega), rfl⟩
    · obtain ⟨hq, hb, g', hU'⟩ := hU.next hlt
      have h1 : (q : Int) < (s.size : Int) := by omega
      have HB : Hid (s[q].toNat = m % 128 + 128) := hb
      have hb1 : ¬ (s[q].toNat : Int) < 128 := by omega
      clear hb
      go_wp2
      go_round
      case rel => exact ⟨j + 1, m / 128, g', q + 1, _, congrArg (Value.int .u64) (hU.val hn s[q] (by rw [HB.out]; omega)), by go_num, by go_num, hU'⟩
      case measure => simp [intOf]; omega

set_option maxHeartbeats 800000 in
set_option maxRecDepth 100000 in
theorem entry26_small (P : Nat) (t : ByteArray) (p S : Nat) (r tail : List UInt8) (w : World) (h0 : w.cell? ⟨P, 0, none⟩ = some (.string t)) (ht : t.size ≤ 4194304)
    (H : t.data.toList.drop p = UInt8.ofNat (S * 16 + r.length) :: (r ++ tail)) (hS : S < 15) (hr : r.length < 16) :
    Calls Try.prog 26 #[.pointer (some ⟨P, 0, none⟩), .int .i64 p] w fun e w' => e = .returned (.tuple #[.int .i64 S, .string (t.extract (p + 1) (p + 1 + r.length)), .int .i64 (p + 1 + r.length : Nat)]) ∧ ∃ n, w' = w.drewN n := by
  obtain ⟨hq, hb, hd⟩ := head_at H
  have hc : t[p].toNat = S * 16 + r.length := by rw [hb, UInt8.toNat_ofNat']; omega
  have hd' := congrArg List.length hd
  simp only [List.length_drop, List.length_append, Array.length_toList] at hd'
  have hpl : p + 1 + r.length ≤ t.size := by
    have : t.data.size = t.size := rfl
    omega
  have h1 : (p : Int) < (t.size : Int) := by omega
  have hcl : (t[p].toNat : Int) < 240 := by omega
  have e1 : ((S : Int) * 16 + (r.length : Int)) / 16 = S := by omega
  have e2 : (r.length : Int) % 16 = r.length := by omega
  have h2 : (p : Int) + 1 + (r.length : Int) ≤ (t.size : Int) := by omega
  clear hd hd' H hb
  go_enter Try.func26, Try.ntmps26
  go_wp2
  go_quiet (fail)
  go_wp2
  go_ret3
  exact ⟨ret_three rfl (by rfl) (by omega), _, rfl⟩

theorem uva28_int (s : ByteArray) (p f n : Nat) (A B N : Int) (tail : List UInt8) (w : World) (H : s.data.toList.drop p = Pk.uv f n ++ tail) (hf : n < 128 ^ (f + 1)) (hn : n ≤ 1048576) (hs : s.size ≤ 4194304) (hA : A = (p : Nat)) (hB : B = (p + (Pk.uv f n).length : Nat)) (hN : N = (n : Nat)) :
    Calls Try.prog 28 #[.string s, .int .i64 A] w fun e w' => e = .returned (.tuple #[.int .u64 N, .int .i64 B]) ∧ w' = w := by
  subst hA; subst hB; subst hN
  exact uva28_any s p f n tail w ⟨H, rfl, hf, by simp, by simp, .inl rfl⟩ hn hs

theorem tail_len {t : ByteArray} {p : Nat} {a b : List UInt8} (h : t.data.toList.drop p = a ++ b) (ha : a ≠ []) : p + a.length ≤ t.size ∧ t.data.toList.drop (p + a.length) = b := by
  have h1 := congrArg List.length h
  simp only [List.length_drop, List.length_append, Array.length_toList] at h1
  have h2 : t.data.size = t.size := rfl
  have h3 : 0 < a.length := List.length_pos_iff.2 ha
  refine ⟨by omega, ?_⟩
  rw [← List.drop_drop, h, List.drop_left]

set_option maxHeartbeats 800000 in
set_option maxRecDepth 100000 in
theorem entry26_big (P : Nat) (t : ByteArray) (p S L : Nat) (tail : List UInt8) (w : World) (h0 : w.cell? ⟨P, 0, none⟩ = some (.string t)) (ht : t.size ≤ 4194304)
    (H : t.data.toList.drop p = 240 :: (Pk.uv 3 S ++ (Pk.uv 3 L ++ tail))) (hS : S ≤ 1048576) (hL : L ≤ 1048576) (hT : L ≤ tail.length) :
    Calls Try.prog 26 #[.pointer (some ⟨P, 0, none⟩), .int .i64 p] w fun e w' => e = .returned (.tuple #[.int .i64 S, .string (t.extract (p + 1 + (Pk.uv 3 S).length + (Pk.uv 3 L).length) (p + 1 + (Pk.uv 3 S).length + (Pk.uv 3 L).length + L)),
      .int .i64 (p + 1 + (Pk.uv 3 S).length + (Pk.uv 3 L).length + L : Nat)]) ∧ ∃ n, w' = w.drewN n := by
  obtain ⟨hq, hb, hd⟩ := head_at H
  have hc : t[p].toNat = 240 := by rw [hb]; rfl
  have k1 := Pk.uv_len 3 S
  have k2 := Pk.uv_len 3 L
  obtain ⟨l1, hd2⟩ := tail_len hd (by intro e; have := congrArg List.length e; unfold Pk.uv at this; split at this <;> simp at this)
  obtain ⟨l2, hd3⟩ := tail_len hd2 (by intro e; have := congrArg List.length e; unfold Pk.uv at this; split at this <;> simp at this)
  have hd4 := congrArg List.length hd3
  simp only [List.length_drop, Array.length_toList] at hd4
  obtain ⟨A, hA⟩ : ∃ A, A = (Pk.uv 3 S).length := ⟨_, rfl⟩
  obtain ⟨B, hB⟩ : ∃ B, B = (Pk.uv 3 L).length := ⟨_, rfl⟩
  have hpl : p + 1 + A + B + L ≤ t.size := by
    have : t.data.size = t.size := rfl
    omega
  have HC1 : ∀ wx, Calls Try.prog 28 #[.string t, .int .i64 ((p : Int) + 1)] wx fun e w' => e = .returned (.tuple #[.int .u64 (S : Int), .int .i64 ((p : Int) + 1 + (A : Int))]) ∧ wx = w' := fun wx =>
    (uva28_int t (p + 1) 3 S _ _ _ _ wx hd (by omega) hS ht (by omega) (by omega) rfl).mono fun e w' h => ⟨h.1, h.2.symm⟩
  have HC2 : ∀ wx, Calls Try.prog 28 #[.string t, .int .i64 ((p : Int) + 1 + (A : Int))] wx fun e w' => e = .returned (.tuple #[.int .u64 (L : Int), .int .i64 ((p : Int) + 1 + (A : Int) + (B : Int))]) ∧ wx = w' := fun wx =>
    (uva28_int t (p + 1 + (Pk.uv 3 S).length) 3 L _ _ _ _ wx hd2 (by omega) hL ht (by omega) (by omega) rfl).mono fun e w' h => ⟨h.1, h.2.symm⟩
  rw [← hA, ← hB]
  have h1 : (p : Int) < (t.size : Int) := by omega
  have h2 : (p : Int) + 1 + (A : Int) + (B : Int) + (L : Int) ≤ (t.size : Int) := by omega
  have hA5 : A ≤ 4 := by omega
  have hB5 : B ≤ 4 := by omega
  clear hd hd2 hd3 hd4 H hb hA hB l1 l2 k1 k2 hT
  go_enter Try.func26, Try.ntmps26
  go_upto_region 6 with (go_at_call 28; refine (HC1 _).mono ?_; rintro e w1 ⟨rfl, rfl⟩)
  clear HC1
  go_wp2_with (go_at_call 28; refine (HC2 _).mono ?_; rintro e w1 ⟨rfl, rfl⟩)
  clear HC2
  go_quiet (fail)
  go_wp2
  go_ret3
  exact ⟨ret_three rfl (by rfl) (by omega), _, rfl⟩

/-- An entry, read. -/
theorem entry26_any (P : Nat) (t : ByteArray) (p S : Nat) (r tail : List UInt8) (w : World) (h0 : w.cell? ⟨P, 0, none⟩ = some (.string t)) (ht : t.size ≤ 4194304)
    (H : t.data.toList.drop p = Pk.hdr S r.length ++ (r ++ tail)) (hS : S ≤ 1048576) (hr : r.length ≤ 1048576) (A B : Int) (hA : A = (p : Nat)) (hB : B = (p + (Pk.hdr S r.length).length + r.length : Nat)) :
    Calls Try.prog 26 #[.pointer (some ⟨P, 0, none⟩), .int .i64 A] w fun e w' => e = .returned (.tuple #[.int .i64 (S : Nat), .string ⟨r.toArray⟩, .int .i64 B]) ∧ ∃ n, w' = w.drewN n := by
  subst hA; subst hB
  unfold Pk.hdr at H ⊢
  have cut : ∀ a, t.data.toList.drop a = r ++ tail → t.extract a (a + r.length) = ⟨r.toArray⟩ := by
    intro a h
    have e : (t.extract a (a + r.length)).data.toList = r := by
      rw [extract_list, h, Nat.add_sub_cancel_left, List.take_left]
    exact ba_eq e
  by_cases hs : S < 15 ∧ r.length < 16
  · rw [if_pos hs] at H ⊢
    have h1 := (head_at H).2.2
    refine (entry26_small P t p S r tail w h0 ht H hs.1 hs.2).mono fun e w' h => ⟨?_, h.2⟩
    rw [h.1, cut _ h1]; rfl
  · rw [if_neg hs] at H ⊢
    have H' : t.data.toList.drop p = 240 :: (Pk.uv 3 S ++ (Pk.uv 3 r.length ++ (r ++ tail))) := by rw [H]; simp
    have h1 := (head_at H').2.2
    have h2 : t.data.toList.drop (p + 1 + (Pk.uv 3 S).length + (Pk.uv 3 r.length).length) = r ++ tail := by
      rw [← List.drop_drop, ← List.drop_drop, h1, List.drop_left, List.drop_left]
    refine (entry26_big P t p S r.length (r ++ tail) w h0 ht H' hS hr (by simp)).mono fun e w' h => ⟨?_, h.2⟩
    rw [h.1, cut _ h2]
    exact ret_three rfl rfl (by simp only [List.length_cons, List.length_append]; omega)

end Go.Proofs.Qxb6600267a
