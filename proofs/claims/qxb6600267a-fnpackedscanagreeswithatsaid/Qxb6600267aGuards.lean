/-
  THE GUARDS AND THE COPY: zzBytes_.., zzb1TooBig, zzb1CloneStrs.
-/
import Derived.Test.Qxb6600267aProg
import Derived.Test.Qxb6600267aSplit
import Derived.Test.Qxb6600267aPackPlain
import Derived.WalkKit
import Derived.WalkSpells
import Derived.WalkLawsBesides
namespace Go.Proofs.Qxb6600267a
open Go.RowKit

/-- What the walk is told of a slice of strings: it holds none; or it leads to a row of them. -/
def Strs (w : World) (a : Option Addr) (ss : List ByteArray) : Prop :=
  ss = [] ∨ ∃ b off, a = some ⟨b, off, none⟩ ∧ b < w.heap.size ∧ ∀ j, j < ss.length → w.cell? ⟨b, off + j, none⟩ = some (.string (ss.getD j ByteArray.empty))

/-- A call that answers some bool; where it is false, p holds. -/
def Says (e : Ending) (p : Prop) : Prop := ∃ r : Bool, e = .returned (.bool r) ∧ (r = false → p)

theorem st_size (ss : List ByteArray) (k : Nat) : (ss.getD k ByteArray.empty).size = (Pk.st ss k).length := by
  unfold Pk.st
  rw [Array.length_toList]; rfl

set_option maxHeartbeats 800000 in
theorem bytes9_row (b off cap : Nat) (ss : List ByteArray) (p q : Int) (w : World) (hm : ss.length ≤ maxLen)
    (hc : ∀ j, j < ss.length → w.cell? ⟨b, off + j, none⟩ = some (.string (ss.getD j ByteArray.empty))) :
    Calls Try.prog 9 #[.slice (some ⟨b, off, none⟩) ss.length cap, .int .i64 p, .int .i64 q] w fun e w' => Says e True ∧ w' = w := by
  unfold maxLen at hm
  by_cases hn : ss.length ≤ 1048576
  · go_enter Try.func9, Try.ntmps9
    go_wp2
    go_loop [7, 8] (fun z i => ∃ (k t : Nat), k ≤ ss.length ∧ i = .int .i64 k ∧ z = .int .i64 t ∧ t ≤ 1048576) (fun _ i => ss.length - (intOf i).toNat)
    case atStart => exact ⟨0, ss.length, Nat.zero_le _, rfl, rfl, hn⟩
    case round =>
      obtain ⟨k, t, hk, rfl, rfl, ht⟩ := hrel
      by_cases hlt : k < ss.length
      · have hcx := hc k hlt
        obtain ⟨x, hx⟩ : ∃ x, x = ss.getD k ByteArray.empty := ⟨_, rfl⟩
        rw [← hx] at hcx
        clear hx hc
        go_wp2
        · go_ret; exact ⟨⟨_, rfl, fun _ => trivial⟩, rfl⟩
        · go_ret; exact ⟨⟨_, rfl, fun _ => trivial⟩, rfl⟩
        · go_round
          case rel => exact ⟨k + 1, t + x.size, by omega, by go_num, by go_num, by omega⟩
          case measure => simp [intOf]; omega
      · go_wp2
        go_ret
        exact ⟨⟨_, rfl, fun _ => trivial⟩, rfl⟩
  · go_enter Try.func9, Try.ntmps9
    go_wp2
    go_ret
    exact ⟨⟨_, rfl, fun _ => trivial⟩, rfl⟩

theorem bytes9_none (a : Option Addr) (cap : Nat) (p q : Int) (w : World) :
    Calls Try.prog 9 #[.slice a 0 cap, .int .i64 p, .int .i64 q] w fun e w' => Says e True ∧ w' = w := by
  go_enter Try.func9, Try.ntmps9
  go_wp2
  refine wp_loop_rounds 1 ?_
  rw [rounds_succ]
  go_wp2
  go_ret
  exact ⟨⟨_, rfl, fun _ => trivial⟩, rfl⟩

set_option maxHeartbeats 800000 in
theorem big10_row (b off cap : Nat) (ss : List ByteArray) (ex : Nat) (w : World) (hm : ss.length ≤ maxLen) (hex : ex ≤ maxLen)
    (hc : ∀ j, j < ss.length → w.cell? ⟨b, off + j, none⟩ = some (.string (ss.getD j ByteArray.empty))) :
    Calls Try.prog 10 #[.slice (some ⟨b, off, none⟩) ss.length cap, .int .i64 ex] w fun e w' => Says e (ss.length ≤ 65536 ∧ ex + 16 * ss.length + Pk.tot ss ss.length ≤ 1048576) ∧ w' = w := by
  unfold maxLen at hm hex
  by_cases hn : ss.length ≤ 65536
  · by_cases he : ex ≤ 1048576
    · have d1 : decide ((65536 : Int) < (ss.length : Int)) = false := decide_eq_false (by omega)
      have d2 : decide (((ex : Nat) : Int) < 0) = false := decide_eq_false (by omega)
      have d3 : decide ((1048576 : Int) < (ex : Int)) = false := decide_eq_false (by omega)
      go_enter Try.func10, Try.ntmps10
      go_wp2
      go_loop [5, 6] (fun z i => ∃ (k : Nat), k ≤ ss.length ∧ i = .int .i64 k ∧ z = .int .i64 (ex + 16 * k + Pk.tot ss k : Nat) ∧ ex + 16 * k + Pk.tot ss k ≤ 1048576) (fun _ i => ss.length - (intOf i).toNat)
      case atStart => exact ⟨0, Nat.zero_le _, rfl, rfl, by simpa [Pk.tot] using he⟩
      case round =>
        obtain ⟨k, hk, rfl, rfl, ht⟩ := hrel
        by_cases hlt : k < ss.length
        · have hcx := hc k hlt
          obtain ⟨x, hx⟩ : ∃ x, x = ss.getD k ByteArray.empty := ⟨_, rfl⟩
          rw [← hx] at hcx
          have HT : Hid (Pk.tot ss (k + 1) = Pk.tot ss k + x.size) := by rw [hx]; show _ = _; rw [st_size]; rfl
          obtain ⟨T, hT⟩ : ∃ T, T = Pk.tot ss k := ⟨_, rfl⟩
          rw [← hT] at HT ht ⊢
          have HT' : Hid (T = Pk.tot ss k) := hT
          clear hx hc hT
          go_wp2
          · go_ret; exact ⟨⟨_, rfl, by simp⟩, rfl⟩
          · go_ret; exact ⟨⟨_, rfl, by simp⟩, rfl⟩
          · go_round
            case rel =>
              have e1 := HT.out
              refine ⟨k + 1, by omega, by go_num, ?_, ?_⟩
              · rw [e1]; go_num
              · rw [e1]; omega
            case measure => simp [intOf]; omega
        · have : k = ss.length := by omega
          subst this
          go_wp2
          go_ret
          first | exact ⟨⟨_, rfl, fun _ => trivial⟩, rfl⟩ | exact ⟨⟨_, rfl, fun _ => ⟨hn, ht⟩⟩, rfl⟩
    · have d1 : decide ((65536 : Int) < (ss.length : Int)) = false := decide_eq_false (by omega)
      have d2 : decide (((ex : Nat) : Int) < 0) = false := decide_eq_false (by omega)
      have d3 : decide ((1048576 : Int) < (ex : Int)) = true := decide_eq_true (by omega)
      go_enter Try.func10, Try.ntmps10
      go_wp2
      go_ret
      exact ⟨⟨_, rfl, by simp⟩, rfl⟩
  · have d1 : decide ((65536 : Int) < (ss.length : Int)) = true := decide_eq_true (by omega)
    go_enter Try.func10, Try.ntmps10
    go_wp2
    go_ret
    exact ⟨⟨_, rfl, by simp⟩, rfl⟩

theorem big10_none (a : Option Addr) (cap : Nat) (ex : Nat) (w : World) (hex : ex ≤ maxLen) :
    Calls Try.prog 10 #[.slice a 0 cap, .int .i64 ex] w fun e w' => Says e (ex ≤ 1048576) ∧ w' = w := by
  unfold maxLen at hex
  have d2 : decide (((ex : Nat) : Int) < 0) = false := decide_eq_false (by omega)
  by_cases he : ex ≤ 1048576
  · have d3 : decide ((1048576 : Int) < (ex : Int)) = false := decide_eq_false (by omega)
    go_enter Try.func10, Try.ntmps10
    go_wp2
    refine wp_loop_rounds 1 ?_
    rw [rounds_succ]
    go_wp2
    go_ret
    first | exact ⟨⟨_, rfl, fun _ => trivial⟩, rfl⟩ | exact ⟨⟨_, rfl, fun _ => he⟩, rfl⟩
  · have d3 : decide ((1048576 : Int) < (ex : Int)) = true := decide_eq_true (by omega)
    go_enter Try.func10, Try.ntmps10
    go_wp2
    go_ret
    exact ⟨⟨_, rfl, by simp⟩, rfl⟩

set_option maxHeartbeats 800000 in
theorem bytes14_row (b off cap : Nat) (ss : List ByteArray) (p q r u : Int) (s : ByteArray) (w : World) (hm : ss.length ≤ maxLen) (hs : s.size ≤ maxLen)
    (hc : ∀ j, j < ss.length → w.cell? ⟨b, off + j, none⟩ = some (.string (ss.getD j ByteArray.empty))) :
    Calls Try.prog 14 #[.slice (some ⟨b, off, none⟩) ss.length cap, .int .i64 p, .int .i64 q, .int .i64 r, .int .i64 u, .string s] w fun e w' => Says e True ∧ w' = w := by
  unfold maxLen at hm hs
  by_cases hn : ss.length ≤ 1048576
  · go_enter Try.func14, Try.ntmps14
    go_wp2
    go_loop [13, 14] (fun z i => ∃ (k t : Nat), k ≤ ss.length ∧ i = .int .i64 k ∧ z = .int .i64 t ∧ t ≤ 1048576) (fun _ i => ss.length - (intOf i).toNat)
    case atStart => exact ⟨0, ss.length, Nat.zero_le _, rfl, rfl, hn⟩
    case round =>
      obtain ⟨k, t, hk, rfl, rfl, ht⟩ := hrel
      by_cases hlt : k < ss.length
      · have hcx := hc k hlt
        obtain ⟨x, hx⟩ : ∃ x, x = ss.getD k ByteArray.empty := ⟨_, rfl⟩
        rw [← hx] at hcx
        clear hx hc
        go_wp2
        · go_ret; exact ⟨⟨_, rfl, fun _ => trivial⟩, rfl⟩
        · go_ret; exact ⟨⟨_, rfl, fun _ => trivial⟩, rfl⟩
        · go_round
          case rel => exact ⟨k + 1, t + x.size, by omega, by go_num, by go_num, by omega⟩
          case measure => simp [intOf]; omega
      · go_wp2
        all_goals (go_ret; exact ⟨⟨_, rfl, fun _ => trivial⟩, rfl⟩)
  · go_enter Try.func14, Try.ntmps14
    go_wp2
    go_ret
    exact ⟨⟨_, rfl, fun _ => trivial⟩, rfl⟩

theorem bytes14_none (a : Option Addr) (cap : Nat) (p q r u : Int) (s : ByteArray) (w : World) (hs : s.size ≤ maxLen) :
    Calls Try.prog 14 #[.slice a 0 cap, .int .i64 p, .int .i64 q, .int .i64 r, .int .i64 u, .string s] w fun e w' => Says e True ∧ w' = w := by
  unfold maxLen at hs
  go_enter Try.func14, Try.ntmps14
  go_wp2
  refine wp_loop_rounds 1 ?_
  rw [rounds_succ]
  go_wp2
  all_goals (go_ret; exact ⟨⟨_, rfl, fun _ => trivial⟩, rfl⟩)

set_option maxHeartbeats 800000 in
theorem bytes16_row (b off cap : Nat) (ss : List ByteArray) (p q r u : Int) (s : ByteArray) (w : World) (hm : ss.length ≤ maxLen) (hs : s.size ≤ maxLen)
    (hc : ∀ j, j < ss.length → w.cell? ⟨b, off + j, none⟩ = some (.string (ss.getD j ByteArray.empty))) :
    Calls Try.prog 16 #[.slice (some ⟨b, off, none⟩) ss.length cap, .int .i64 p, .int .i64 q, .int .i64 r, .int .i64 u, .string s] w fun e w' => Says e True ∧ w' = w := by
  unfold maxLen at hm hs
  by_cases hn : ss.length ≤ 1048576
  · go_enter Try.func16, Try.ntmps16
    go_wp2
    go_loop [13, 14] (fun z i => ∃ (k t : Nat), k ≤ ss.length ∧ i = .int .i64 k ∧ z = .int .i64 t ∧ t ≤ 1048576) (fun _ i => ss.length - (intOf i).toNat)
    case atStart => exact ⟨0, ss.length, Nat.zero_le _, rfl, rfl, hn⟩
    case round =>
      obtain ⟨k, t, hk, rfl, rfl, ht⟩ := hrel
      by_cases hlt : k < ss.length
      · have hcx := hc k hlt
        obtain ⟨x, hx⟩ : ∃ x, x = ss.getD k ByteArray.empty := ⟨_, rfl⟩
        rw [← hx] at hcx
        clear hx hc
        go_wp2
        · go_ret; exact ⟨⟨_, rfl, fun _ => trivial⟩, rfl⟩
        · go_ret; exact ⟨⟨_, rfl, fun _ => trivial⟩, rfl⟩
        · go_round
          case rel => exact ⟨k + 1, t + x.size, by omega, by go_num, by go_num, by omega⟩
          case measure => simp [intOf]; omega
      · go_wp2
        all_goals (go_ret; exact ⟨⟨_, rfl, fun _ => trivial⟩, rfl⟩)
  · go_enter Try.func16, Try.ntmps16
    go_wp2
    go_ret
    exact ⟨⟨_, rfl, fun _ => trivial⟩, rfl⟩

theorem bytes16_none (a : Option Addr) (cap : Nat) (p q r u : Int) (s : ByteArray) (w : World) (hs : s.size ≤ maxLen) :
    Calls Try.prog 16 #[.slice a 0 cap, .int .i64 p, .int .i64 q, .int .i64 r, .int .i64 u, .string s] w fun e w' => Says e True ∧ w' = w := by
  unfold maxLen at hs
  go_enter Try.func16, Try.ntmps16
  go_wp2
  refine wp_loop_rounds 1 ?_
  rw [rounds_succ]
  go_wp2
  all_goals (go_ret; exact ⟨⟨_, rfl, fun _ => trivial⟩, rfl⟩)

theorem clone11_nil (w : World) : Calls Try.prog 11 #[.slice none 0 0] w fun e w' => e = .returned (.slice none 0 0) ∧ w' = w := by
  have hq := fun (wx : World) (a : Option Addr) (n c : Nat) => Lib.run_eql_slice_nil (P := Try.prog) wx 22 9 a n c 0 0 Try.underlying22
  go_enter Try.func11, Try.ntmps11
  go_wp2
  go_ret
  exact ⟨rfl, rfl⟩

set_option maxHeartbeats 800000 in
theorem clone11_row (ad : Addr) (cap : Nat) (ss : List ByteArray) (w : World) (hn : ss.length ≤ 1048576)
    (hc : ∀ j, j < ss.length → ad.spot = none ∧ w.cell? ⟨ad.block, ad.off + j, none⟩ = some (.string (ss.getD j ByteArray.empty))) :
    Calls Try.prog 11 #[.slice (some ad) ss.length cap] w fun e w' => ∃ g, e = .returned (.slice (some ⟨g, 0, none⟩) ss.length ss.length) ∧ g < w'.heap.size ∧
      (∀ j, j < ss.length → w'.cell? ⟨g, j, none⟩ = some (.string (ss.getD j ByteArray.empty))) ∧ Below w.heap.size w w' := by
  obtain ⟨i0, hi, hz0, hz1, hz2⟩ := info_parts Try.info9
  have hq := fun (wx : World) (a : Option Addr) (n c : Nat) => Lib.run_eql_slice_nil (P := Try.prog) wx 22 9 a n c 0 0 Try.underlying22
  go_enter Try.func11, Try.ntmps11
  go_wp2_with (at_make; refine wpList_make_full _ rfl _ _ 22 rfl w.heap.size 9 i0 (.string ByteArray.empty) 1 Try.underlying22 hi hz0 hz1 _ _ _ _ ss.length rfl rfl rfl rfl ?c1 ?c2 ?c3 ?_)
  case c1 => rw [hz2]; omega
  case c2 => unfold maxLen; omega
  case c3 => exact Nat.le_refl _
  intro w1 hown hgrow
  have hb1 : Below w.heap.size w w1 := (Below.refl _ _).grown hgrow (Nat.le_refl _) (fun k h => by cases h)
  have hsz1 := hb1.size
  clear hgrow hq
  go_wp2
  go_loopw [4] (fun i wr => ∃ (k : Nat) (xs : List Value), k ≤ ss.length ∧ i = .int .i64 k ∧ wr.ownsRow w.heap.size 9 1 (.slice (some ⟨w.heap.size, 0, none⟩) ss.length ss.length) ss.length xs ∧
      (∀ j, j < k → xs[j]? = some (.string (ss.getD j ByteArray.empty))) ∧ Below w.heap.size w wr)
    (fun i _ => ss.length - (intOf i).toNat)
  case atStart => exact ⟨0, _, Nat.zero_le _, rfl, hown, fun j hj => by omega, hb1⟩
  case round =>
    obtain ⟨k, xs, hk, rfl, hown, hxs, hnx⟩ := hrel
    by_cases hlt : k < ss.length
    · obtain ⟨b, off, spot⟩ := ad
      obtain ⟨hsp, hc0⟩ := hc k hlt
      simp only at hsp hc0
      subst hsp
      have hcx := cell_later hnx hc0
      obtain ⟨x, hx⟩ : ∃ x, x = ss.getD k ByteArray.empty := ⟨_, rfl⟩
      rw [← hx] at hcx
      have HX : Hid (x = ss.getD k ByteArray.empty) := hx
      have hfr := hown.frozenAt k
      have hct := hown.cellAt k (by omega)
      have hlen := hown.1
      rw [List.getElem?_eq_getElem (by omega)] at hct
      have HO := hown.stored k (.string x)
      clear hx hc0 hc hown
      go_wp2
      go_roundw
      case rel =>
        refine ⟨k + 1, xs.set k (.string x), by omega, by go_num, HO.1, fun j hj => ?_, hnx.grown HO.2 hnx.size (fun k h => by simp at h; omega)⟩
        by_cases e : j = k
        · subst e; rw [List.getElem?_set_self (by omega), HX.out]
        · rw [List.getElem?_set_ne (by omega)]; exact hxs j (by omega)
      case measure => simp [intOf]; omega
    · have hke : k = ss.length := by omega
      subst hke
      go_wp2
      go_ret
      exact ⟨w.heap.size, rfl, by have := (hown.lt w.heap.size rfl).2; omega, fun j hj => by rw [hown.cellAt j (by omega)]; exact hxs j hj, hnx⟩

end Go.Proofs.Qxb6600267a
