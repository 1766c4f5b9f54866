/-
  THE WALKS OF zzb1CommonPrefix, zzb1AppendUvarint, zzb1Pack.
-/
import Derived.Test.Qxb6600267aGuards
import Derived.Deep.QuietTactic
import Derived.BigQuiet
import Derived.Laws.BitsAllLaws
namespace Go.Proofs.Qxb6600267a
open Go.RowKit

theorem cp_stop {a b : ByteArray} {k : Nat} (h : a.data.toList.take k = b.data.toList.take k) (ha : k < a.size) (hb : k < b.size) (hne : ((a[k].toNat : Int) != (b[k].toNat : Int)) = true) :
    Pk.cp a.data.toList b.data.toList = k := by
  refine Pk.cp_eq _ _ _ h (by simp; omega) (by simp; omega) (.inr (.inr ?_))
  rw [get_data a k ha, get_data b k hb]
  intro e
  have e1 : a[k] = b[k] := Option.some.inj e
  rw [e1] at hne
  simp at hne

theorem cp_more {a b : ByteArray} {k : Nat} (h : a.data.toList.take k = b.data.toList.take k) (ha : k < a.size) (hb : k < b.size) (hne : ((a[k].toNat : Int) != (b[k].toNat : Int)) = false) :
    a.data.toList.take (k + 1) = b.data.toList.take (k + 1) := by
  rw [List.take_add_one, List.take_add_one, h, get_data a k ha, get_data b k hb]
  have h1 : (a[k].toNat : Int) = (b[k].toNat : Int) := by simpa using hne
  have h2 : a[k].toNat = b[k].toNat := by omega
  rw [UInt8.toNat_inj.1 h2]

theorem cp_full {a b : ByteArray} {k : Nat} (h : a.data.toList.take k = b.data.toList.take k) (ha : k ≤ a.size) (hb : k ≤ b.size) (he : k = a.size ∨ k = b.size) :
    Pk.cp a.data.toList b.data.toList = k :=
  Pk.cp_eq _ _ _ h (by simpa using ha) (by simpa using hb) (by rcases he with e | e <;> simp [e])

theorem ret_int {k : IntKind} {a b : Int} (h : a = b) : Ending.returned (.int k a) = .returned (.int k b) := by rw [h]

set_option maxHeartbeats 800000 in
theorem cp21_any (a b : ByteArray) (w : World) (ha : a.size ≤ maxLen) (hb : b.size ≤ maxLen) :
    Calls Try.prog 21 #[.string a, .string b] w fun e w' => e = .returned (.int .i64 (Pk.cp a.data.toList b.data.toList : Nat)) ∧ ∃ n, w' = w.drewN n := by
  unfold maxLen at ha hb
  by_cases hab : b.size < a.size
  · go_enter Try.func21, Try.ntmps21
    go_wp2
    go_loopw [6] (fun i wr => ∃ (k n : Nat), k ≤ b.size ∧ i = .int .i64 k ∧ a.data.toList.take k = b.data.toList.take k ∧ wr = w.drewN n) (fun i _ => b.size - (intOf i).toNat)
    case atStart => exact ⟨0, 0, Nat.zero_le _, rfl, rfl, rfl⟩
    case round =>
      obtain ⟨k, n, hk, rfl, heq, rfl⟩ := hrel
      have HE : Hid (a.data.toList.take k = b.data.toList.take k) := heq
      clear heq
      by_cases hlt : k < b.size
      · have hka : k < a.size := by omega
        have h1 : (k : Int) < (a.size : Int) := by omega
        have h2 : (k : Int) < (b.size : Int) := by omega
        go_wp2
        go_quiet (fail)
        go_wp2
        · have hne : ((a[k].toNat : Int) != (b[k].toNat : Int)) = true := by assumption
          go_ret
          exact ⟨ret_int (by rw [cp_stop HE.out hka hlt hne]), n + nq, by simp⟩
        · have hne : ((a[k].toNat : Int) != (b[k].toNat : Int)) = false := by assumption
          go_roundw
          case rel => exact ⟨k + 1, n + nq, by omega, by go_num, cp_more HE.out hka hlt hne, rfl⟩
          case measure => simp [intOf]; omega
      · go_wp2
        go_ret
        exact ⟨ret_int (by rw [cp_full HE.out (by omega) (by omega) (.inr (by omega))]; omega), _, rfl⟩
  · go_enter Try.func21, Try.ntmps21
    go_wp2
    go_loopw [6] (fun i wr => ∃ (k n : Nat), k ≤ a.size ∧ i = .int .i64 k ∧ a.data.toList.take k = b.data.toList.take k ∧ wr = w.drewN n) (fun i _ => a.size - (intOf i).toNat)
    case atStart => exact ⟨0, 0, Nat.zero_le _, rfl, rfl, rfl⟩
    case round =>
      obtain ⟨k, n, hk, rfl, heq, rfl⟩ := hrel
      have HE : Hid (a.data.toList.take k = b.data.toList.take k) := heq
      clear heq
      by_cases hlt : k < a.size
      · have hkb : k < b.size := by omega
        have h1 : (k : Int) < (a.size : Int) := by omega
        have h2 : (k : Int) < (b.size : Int) := by omega
        go_wp2
        go_quiet (fail)
        go_wp2
        · have hne : ((a[k].toNat : Int) != (b[k].toNat : Int)) = true := by assumption
          go_ret
          exact ⟨ret_int (by rw [cp_stop HE.out hlt hkb hne]), n + nq, by simp⟩
        · have hne : ((a[k].toNat : Int) != (b[k].toNat : Int)) = false := by assumption
          go_roundw
          case rel => exact ⟨k + 1, n + nq, by omega, by go_num, cp_more HE.out hlt hkb hne, rfl⟩
          case measure => simp [intOf]; omega
      · go_wp2
        go_ret
        exact ⟨ret_int (by rw [cp_full HE.out (by omega) (by omega) (.inl (by omega))]; omega), _, rfl⟩

/-- Bytes as cells. -/
def byc (l : List UInt8) : List Value := l.map fun b => Value.int .u8 b.toNat

/-- What is left of a varint that is being written. -/
def UvLeft (l : List UInt8) (f n m g : Nat) (x : List UInt8) : Prop := m < 128 ^ (g + 1) ∧ x ++ Pk.uv g m = l ++ Pk.uv f n

theorem UvLeft.len {l : List UInt8} {f n m g : Nat} {x : List UInt8} (h : UvLeft l f n m g x) : x.length ≤ l.length + f + 1 := by
  have := congrArg List.length h.2
  have h1 := Pk.uv_len f n
  simp only [List.length_append] at this
  omega

theorem UvLeft.last {l : List UInt8} {f n m g : Nat} {x : List UInt8} (h : UvLeft l f n m g x) (hm : m < 128) : x ++ [UInt8.ofNat m] = l ++ Pk.uv f n := by
  rw [← h.2, Pk.uv_small _ _ hm]

theorem UvLeft.next {l : List UInt8} {f n m g : Nat} {x : List UInt8} (h : UvLeft l f n m g x) (hm : ¬ m < 128) : ∃ g', UvLeft l f n (m / 128) g' (x ++ [UInt8.ofNat (m % 128 + 128)]) := by
  obtain ⟨h1, h2⟩ := h
  cases g with
  | zero => simp at h1; omega
  | succ g =>
    refine ⟨g, ?_, ?_⟩
    · rw [Nat.pow_succ] at h1; exact Nat.div_lt_of_lt_mul (by omega)
    · rw [← h2, Pk.uv_big _ _ hm, List.append_assoc]; rfl

theorem or128 : ∀ y, y < 256 → y ||| 128 = y % 128 + 128 := by decide +kernel
theorem byte_or128 (m : Nat) : bits .or .u8 ((m : Int) % 256) 128 = ((m % 128 + 128 : Nat) : Int) := by
  have h := u8_or_nat (m % 256) 128 (by omega) (by decide)
  have e : (((m % 256 : Nat)) : Int) = (m : Int) % 256 := by omega
  rw [e] at h
  refine h.trans ?_
  rw [or128 _ (by omega)]
  omega
theorem byte_of (n : Nat) (h : n < 256) : (((UInt8.ofNat n).toNat : Nat) : Int) = (n : Int) := by
  rw [UInt8.toNat_ofNat']; omega
theorem byc_snoc (l : List UInt8) (n : Nat) (h : n < 256) : byc (l ++ [UInt8.ofNat n]) = byc l ++ [.int .u8 n] := by
  simp only [byc, List.map_append, List.map_cons, List.map_nil]
  rw [byte_of n h]

/-- Two rows of different element types are apart. -/
theorem owns_apart {w : World} {b1 b2 : Nat} {e1 e2 : TypeId} {v1 v2 : Value} {n1 n2 : Nat} {x1 x2 : List Value} (h1 : w.ownsRow b1 e1 1 v1 n1 x1) (h2 : w.ownsRow b2 e2 1 v2 n2 x2) (hne : e1 ≠ e2) :
    v1.ownBlock = none ∨ v1.ownBlock ≠ v2.ownBlock := by
  rcases h1.2 with ⟨rfl, _⟩ | ⟨g1, c1, cur1, rfl, _, hg1, _⟩
  · exact .inl rfl
  rcases h2.2 with ⟨rfl, _⟩ | ⟨g2, c2, cur2, rfl, _, hg2, _⟩
  · right; simp [Value.ownBlock]
  right
  intro e
  simp only [Value.ownBlock, Option.some.injEq] at e
  subst e
  rw [hg1] at hg2
  simp only [Option.some.injEq, Obj.cells.injEq] at hg2
  exact hne hg2.2.1

set_option maxHeartbeats 800000 in
set_option maxRecDepth 100000 in
theorem uv22_any (base : Nat) (v : Value) (l : List UInt8) (f n : Nat) (w : World) (v9 : Value) (n9 : Nat) (x9 : List Value) (h9 : w.ownsRow base 37 1 v9 n9 x9) (hown : w.ownsRow base 5 1 v l.length (byc l)) (hb : base ≤ w.heap.size) (HN : Hid (n < 128 ^ (f + 1))) (hn' : n ≤ 1048576) (hl : l.length + f ≤ 2097152) :
    Calls Try.prog 22 #[v, .int .u64 n] w fun e w' => ∃ v', e = .returned v' ∧ w'.ownsRow base 5 1 v' (l ++ Pk.uv f n).length (byc (l ++ Pk.uv f n)) ∧ w'.ownsRow base 37 1 v9 n9 x9 ∧ Below base w w' := by
  obtain ⟨i0, hi, hz0, hz1, hz2⟩ := info_parts Try.info5
  go_enter Try.func22, Try.ntmps22
  go_wp2
  go_loopw [0, 1] (fun v i wr => ∃ (m g : Nat) (x : List UInt8), m ≤ 1048576 ∧ i = .int .u64 m ∧ UvLeft l f n m g x ∧ wr.ownsRow base 5 1 v x.length (byc x) ∧ wr.ownsRow base 37 1 v9 n9 x9 ∧ Below base w wr) (fun _ i _ => (intOf i).toNat)
  case atStart => exact ⟨n, f, l, hn', rfl, ⟨HN.out, rfl⟩, hown, h9, Below.refl _ _⟩
  case round =>
    obtain ⟨m, g, x, hm, rfl, hx, hown, h9r, hnx⟩ := hrel
    have hsz := hnx.size
    have hxl := hx.len
    by_cases hlt : m < 128
    · go_wp2_with (at_builtin; refine wpList_append_own _ rfl _ _ 36 rfl base 5 i0 (.int .u8 0) 1 1 Try.underlying36 hi hz0 hz1 hz2 rfl (by decide) _ _ _ rfl (hown.alloc _) ⟨wr.heap.size, 0, none⟩ 1 1 [.int .u8 m] rfl rfl (cell_one_new _ _ _) ?c1 ?c2 ?c3 ?c4 ?_)
      case c1 => intro u hu; simp at hu; subst hu; rfl
      case c2 => unfold maxLen; omega
      case c3 => omega
      case c4 => simp; omega
      intro v' w1 hown' hgrow _
      have HB : Below base w w1 := (hnx.alloc (by omega) _).grown hgrow (by simp; omega) (fun g hg => (hown.lt g hg).1)
      have H9 : w1.ownsRow base 37 1 v9 n9 x9 := (h9r.alloc _).kept hgrow (owns_apart h9r hown (by decide))
      have HO : w1.ownsRow base 5 1 v' (l ++ Pk.uv f n).length (byc (l ++ Pk.uv f n)) := by
        rw [← hx.last hlt, byc_snoc _ _ (by omega)]; simpa using hown'
      clear hown' hgrow hown hnx hx h9r h9
      go_wp2
      go_ret
      exact ⟨_, rfl, HO, H9, HB⟩
    · have hor := byte_or128 m
      go_wp2_with (at_builtin; refine wpList_append_own _ rfl _ _ 36 rfl base 5 i0 (.int .u8 0) 1 1 Try.underlying36 hi hz0 hz1 hz2 rfl (by decide) _ _ _ rfl (hown.alloc _) ⟨wr.heap.size, 0, none⟩ 1 1 [_] rfl rfl (cell_one_new _ _ _) ?d1 ?d2 ?d3 ?d4 ?_)
      case d1 => intro u hu; simp at hu; subst hu; rfl
      case d2 => unfold maxLen; omega
      case d3 => omega
      case d4 => simp; omega
      intro v' w1 hown' hgrow _
      have HB : Below base w w1 := (hnx.alloc (by omega) _).grown hgrow (by simp; omega) (fun g hg => (hown.lt g hg).1)
      have H9 : w1.ownsRow base 37 1 v9 n9 x9 := (h9r.alloc _).kept hgrow (owns_apart h9r hown (by decide))
      obtain ⟨g', hx'⟩ := hx.next hlt
      have HO : w1.ownsRow base 5 1 v' (x ++ [UInt8.ofNat (m % 128 + 128)]).length (byc (x ++ [UInt8.ofNat (m % 128 + 128)])) := by
        rw [byc_snoc _ _ (by omega)]; simpa using hown'
      clear hown' hgrow hown hnx hx h9r h9
      go_wp2
      go_roundw
      case rel => first | exact ⟨m / 128, g', _, by omega, by go_num, hx', HO, H9, HB⟩ | ((repeat apply Exists.intro); exact ⟨⟨m / 128, g', _, by omega, by go_num, hx', HO, H9, HB⟩, rfl⟩)
      case measure => simp [intOf]; omega

end Go.Proofs.Qxb6600267a
