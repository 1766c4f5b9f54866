/-
  THE GUARDS AND THE COPY: zzBytes_.., zzStringsBytes, zzCloneStrings.
-/
import Derived.Test.Qxb6600318aProg
import Derived.WalkKit
import Derived.WalkSpells
import Derived.WalkLawsBesides
import Derived.WalkSmall
import Derived.Deep.QuietTactic
import Derived.BigQuiet
import Derived.Deep.RegionWith
import Derived.Deep.DeepCutAuto
namespace Go.Proofs.Qxb6600318a
open Go.RowKit

theorem Try.info9 : (Try.prog.info? 9).map (fun i => (i.zero, i.size, i.bytes)) = some (some (.string ByteArray.empty), 1, 16) := by kernel_rfl

/-- What the walk is told of a slice of strings that came in. -/
def IsStrs (w : World) (a : Option Addr) (len cap : Nat) (ss : List ByteArray) : Prop :=
  (∀ s ∈ ss, s.size ≤ maxLen) ∧ ((a = none ∧ len = 0 ∧ cap = 0 ∧ ss = []) ∨
  ∃ x, a = some x ∧ len = ss.length ∧ len ≤ cap ∧ cap ≤ maxLen ∧ ∀ i, i < ss.length → w.cell? (x.add i) = some (.string (ss.getD i ByteArray.empty)))

theorem IsStrs.row {w : World} {a : Option Addr} {len cap : Nat} {ss : List ByteArray} (h : IsStrs w a len cap ss) : len = ss.length ∧ ss.length ≤ maxLen ∧ (a = none → cap = 0) ∧
    (0 < ss.length → ∃ b off, a = some ⟨b, off, none⟩ ∧ ∀ j, j < ss.length → w.cell? ⟨b, off + j, none⟩ = some (.string (ss.getD j ByteArray.empty))) := by
  rcases h.2 with ⟨rfl, rfl, rfl, rfl⟩ | ⟨x, rfl, rfl, hl, hm, hc⟩
  · exact ⟨rfl, Nat.zero_le _, fun _ => rfl, fun h => by simp at h⟩
  · refine ⟨rfl, by omega, (fun h => by cases h), fun h0 => ?_⟩
    obtain ⟨b, off, spot⟩ := x
    have hsp : spot = none := by simpa [Addr.add] using World.cell?_spot (hc 0 h0)
    subst hsp
    exact ⟨b, off, rfl, fun j hj => by rw [← Addr.add_lit]; exact hc j hj⟩

/-- A call that answers some bool. -/
def Says (e : Ending) : Prop := ∃ r : Bool, e = .returned (.bool r)

set_option maxHeartbeats 800000 in
theorem bytes15_row (b off cap : Nat) (ss : List ByteArray) (s : ByteArray) (w : World) (hm : ss.length ≤ maxLen) (hs : s.size ≤ maxLen)
    (hc : ∀ j, j < ss.length → w.cell? ⟨b, off + j, none⟩ = some (.string (ss.getD j ByteArray.empty))) :
    Calls Try.prog 15 #[.slice (some ⟨b, off, none⟩) ss.length cap, .string s] w fun e w' => Says e ∧ w' = w := by
  unfold maxLen at hm hs
  by_cases hn : ss.length ≤ 1048576
  · go_enter Try.func15, Try.ntmps15
    go_wp2
    go_loop [5, 6] (fun z i => ∃ (k t : Nat), k ≤ ss.length ∧ i = .int .i64 k ∧ z = .int .i64 t ∧ t ≤ 1048576) (fun _ i => ss.length - (intOf i).toNat)
    case atStart => exact ⟨0, ss.length, Nat.zero_le _, rfl, rfl, hn⟩
    case round =>
      obtain ⟨k, t, hk, rfl, rfl, ht⟩ := hrel
      by_cases hlt : k < ss.length
      · have hcx := hc k hlt
        obtain ⟨x, hx⟩ : ∃ x, x = ss.getD k ByteArray.empty := ⟨_, rfl⟩
        rw [← hx] at hcx
        clear hx hc
        go_wp2
        · go_ret; exact ⟨⟨_, rfl⟩, rfl⟩
        · go_ret; exact ⟨⟨_, rfl⟩, rfl⟩
        · go_round
          case rel => exact ⟨k + 1, t + x.size, by omega, by go_num, by go_num, by omega⟩
          case measure => simp [intOf]; omega
      · go_wp2
        all_goals (go_ret; exact ⟨⟨_, rfl⟩, rfl⟩)
  · go_enter Try.func15, Try.ntmps15
    go_wp2
    go_ret
    exact ⟨⟨_, rfl⟩, rfl⟩

theorem bytes15_none (a : Option Addr) (cap : Nat) (s : ByteArray) (w : World) (hs : s.size ≤ maxLen) :
    Calls Try.prog 15 #[.slice a 0 cap, .string s] w fun e w' => Says e ∧ w' = w := by
  unfold maxLen at hs
  go_enter Try.func15, Try.ntmps15
  go_wp2
  refine wp_loop_rounds 1 ?_
  rw [rounds_succ]
  go_wp2
  all_goals (go_ret; exact ⟨⟨_, rfl⟩, rfl⟩)

theorem bytes15_any {w : World} {a : Option Addr} {len cap : Nat} {ss : List ByteArray} (h : IsStrs w a len cap ss) (s : ByteArray) (hs : s.size ≤ maxLen) :
    Calls Try.prog 15 #[.slice a len cap, .string s] w fun e w' => Says e ∧ w' = w := by
  obtain ⟨rfl, hm, _, hrow⟩ := h.row
  by_cases h0 : 0 < ss.length
  · obtain ⟨b, off, rfl, hc⟩ := hrow h0
    exact bytes15_row b off cap ss s w hm hs hc
  · have e : ss.length = 0 := by omega
    rw [e]; exact bytes15_none a cap s w hs

set_option maxHeartbeats 800000 in
theorem bytes17_row (b off cap : Nat) (ss : List ByteArray) (w : World) (hm : ss.length ≤ maxLen)
    (hc : ∀ j, j < ss.length → w.cell? ⟨b, off + j, none⟩ = some (.string (ss.getD j ByteArray.empty))) :
    Calls Try.prog 17 #[.slice (some ⟨b, off, none⟩) ss.length cap] w fun e w' => Says e ∧ w' = w := by
  unfold maxLen at hm
  by_cases hn : ss.length ≤ 1048576
  · go_enter Try.func17, Try.ntmps17
    go_wp2
    go_loop [3, 4] (fun z i => ∃ (k t : Nat), k ≤ ss.length ∧ i = .int .i64 k ∧ z = .int .i64 t ∧ t ≤ 1048576) (fun _ i => ss.length - (intOf i).toNat)
    case atStart => exact ⟨0, ss.length, Nat.zero_le _, rfl, rfl, hn⟩
    case round =>
      obtain ⟨k, t, hk, rfl, rfl, ht⟩ := hrel
      by_cases hlt : k < ss.length
      · have hcx := hc k hlt
        obtain ⟨x, hx⟩ : ∃ x, x = ss.getD k ByteArray.empty := ⟨_, rfl⟩
        rw [← hx] at hcx
        clear hx hc
        go_wp2
        · go_ret; exact ⟨⟨_, rfl⟩, rfl⟩
        · go_ret; exact ⟨⟨_, rfl⟩, rfl⟩
        · go_round
          case rel => exact ⟨k + 1, t + x.size, by omega, by go_num, by go_num, by omega⟩
          case measure => simp [intOf]; omega
      · go_wp2
        all_goals (go_ret; exact ⟨⟨_, rfl⟩, rfl⟩)
  · go_enter Try.func17, Try.ntmps17
    go_wp2
    go_ret
    exact ⟨⟨_, rfl⟩, rfl⟩

theorem bytes17_none (a : Option Addr) (cap : Nat) (w : World) :
    Calls Try.prog 17 #[.slice a 0 cap] w fun e w' => Says e ∧ w' = w := by
  go_enter Try.func17, Try.ntmps17
  go_wp2
  refine wp_loop_rounds 1 ?_
  rw [rounds_succ]
  go_wp2
  all_goals (go_ret; exact ⟨⟨_, rfl⟩, rfl⟩)

theorem bytes17_any {w : World} {a : Option Addr} {len cap : Nat} {ss : List ByteArray} (h : IsStrs w a len cap ss) :
    Calls Try.prog 17 #[.slice a len cap] w fun e w' => Says e ∧ w' = w := by
  obtain ⟨rfl, hm, _, hrow⟩ := h.row
  by_cases h0 : 0 < ss.length
  · obtain ⟨b, off, rfl, hc⟩ := hrow h0
    exact bytes17_row b off cap ss w hm hc
  · have e : ss.length = 0 := by omega
    rw [e]; exact bytes17_none a cap w

/-- A call that answers some int, from 0 to 2^22. -/
def Counts (e : Ending) : Prop := ∃ N : Nat, e = .returned (.int .i64 N) ∧ N ≤ 4194304

set_option maxHeartbeats 800000 in
theorem sbytes8_row (b off cap : Nat) (ss : List ByteArray) (w : World) (hn : ss.length ≤ 65536)
    (hc : ∀ j, j < ss.length → w.cell? ⟨b, off + j, none⟩ = some (.string (ss.getD j ByteArray.empty))) :
    Calls Try.prog 8 #[.slice (some ⟨b, off, none⟩) ss.length cap] w fun e w' => Counts e ∧ w' = w := by
  go_enter Try.func8, Try.ntmps8
  go_wp2
  go_loop [3, 4] (fun z i => ∃ (k t : Nat), k ≤ ss.length ∧ i = .int .i64 k ∧ z = .int .i64 t ∧ t ≤ 2097152) (fun _ i => ss.length - (intOf i).toNat)
  case atStart => exact ⟨0, 16 * ss.length, Nat.zero_le _, rfl, by go_num, by omega⟩
  case round =>
    obtain ⟨k, t, hk, rfl, rfl, ht⟩ := hrel
    by_cases hlt : k < ss.length
    · have hcx := hc k hlt
      obtain ⟨x, hx⟩ : ∃ x, x = ss.getD k ByteArray.empty := ⟨_, rfl⟩
      rw [← hx] at hcx
      clear hx hc
      by_cases h1 : 1048576 < x.size
      · have d1 : decide ((1048576 : Int) < (x.size : Int)) = true := decide_eq_true (by omega)
        go_wp2
        go_ret
        exact ⟨⟨1048577, rfl, by omega⟩, rfl⟩
      · have d1 : decide ((1048576 : Int) < (x.size : Int)) = false := decide_eq_false (by omega)
        by_cases h2 : 1048576 < t
        · have d2 : decide ((1048576 : Int) < (t : Int)) = true := decide_eq_true (by omega)
          go_wp2
          go_ret
          exact ⟨⟨1048577, rfl, by omega⟩, rfl⟩
        · have d2 : decide ((1048576 : Int) < (t : Int)) = false := decide_eq_false (by omega)
          go_wp2
          go_round
          case rel => exact ⟨k + 1, t + x.size, by omega, by go_num, by go_num, by omega⟩
          case measure => simp [intOf]; omega
    · go_wp2
      go_ret
      exact ⟨⟨t, rfl, by omega⟩, rfl⟩

theorem sbytes8_none (a : Option Addr) (cap : Nat) (w : World) : Calls Try.prog 8 #[.slice a 0 cap] w fun e w' => Counts e ∧ w' = w := by
  go_enter Try.func8, Try.ntmps8
  go_wp2
  refine wp_loop_rounds 1 ?_
  rw [rounds_succ]
  go_wp2
  go_ret
  exact ⟨⟨0, rfl, by omega⟩, rfl⟩

theorem sbytes8_any {w : World} {a : Option Addr} {len cap : Nat} {ss : List ByteArray} (h : IsStrs w a len cap ss) (hn : ss.length ≤ 65536) :
    Calls Try.prog 8 #[.slice a len cap] w fun e w' => Counts e ∧ w' = w := by
  obtain ⟨rfl, hm, _, hrow⟩ := h.row
  by_cases h0 : 0 < ss.length
  · obtain ⟨b, off, rfl, hc⟩ := hrow h0
    exact sbytes8_row b off cap ss w hn hc
  · have e : ss.length = 0 := by omega
    rw [e]; exact sbytes8_none a cap w

theorem clone9_nil (w : World) : Calls Try.prog 9 #[.slice none 0 0] w fun e w' => e = .returned (.slice none 0 0) ∧ w' = w := by
  have hq := fun (wx : World) (a : Option Addr) (n c : Nat) => Lib.run_eql_slice_nil (P := Try.prog) wx 22 9 a n c 0 0 Try.underlying22
  go_enter Try.func9, Try.ntmps9
  go_wp2
  go_ret
  exact ⟨rfl, rfl⟩

set_option maxHeartbeats 800000 in
theorem clone9_row (ad : Addr) (cap : Nat) (ss : List ByteArray) (w : World) (hn : ss.length ≤ 1048576)
    (hc : ∀ j, j < ss.length → ad.spot = none ∧ w.cell? ⟨ad.block, ad.off + j, none⟩ = some (.string (ss.getD j ByteArray.empty))) :
    Calls Try.prog 9 #[.slice (some ad) ss.length cap] w fun e w' => ∃ g, e = .returned (.slice (some ⟨g, 0, none⟩) ss.length ss.length) ∧ g < w'.heap.size ∧
      (∀ j, j < ss.length → w'.cell? ⟨g, j, none⟩ = some (.string (ss.getD j ByteArray.empty))) ∧ Below w.heap.size w w' := by
  obtain ⟨i0, hi, hz0, hz1, hz2⟩ := info_parts Try.info9
  have hq := fun (wx : World) (a : Option Addr) (n c : Nat) => Lib.run_eql_slice_nil (P := Try.prog) wx 22 9 a n c 0 0 Try.underlying22
  go_enter Try.func9, Try.ntmps9
  go_wp2_with (at_make; refine wpList_make_full _ rfl _ _ 22 rfl w.heap.size 9 i0 (.string ByteArray.empty) 1 Try.underlying22 hi hz0 hz1 _ _ _ _ ss.length rfl rfl rfl rfl ?c1 ?c2 ?c3 ?_)
  case c1 => rw [hz2]; omega
  case c2 => unfold maxLen; omega
  case c3 => exact Nat.le_refl _
  intro w1 hown hgrow
  have hb1 : Below w.heap.size w w1 := (Below.refl _ _).grown hgrow (Nat.le_refl _) (fun k h => by cases h)
  have hsz1 := hb1.size
  clear hgrow hq
  go_wp2
  go_loopw [4] (fun i wr => ∃ (k : Nat) (xs : List Value), k ≤ ss.length ∧ i = .int .i64 k ∧ wr.ownsRow w.heap.size 9 1 (.slice (some ⟨w.heap.size, 0, none⟩) ss.length ss.length) ss.length xs ∧
      (∀ j, j < k → xs[j]? = some (.string (ss.getD j ByteArray.empty))) ∧ Below w.heap.size w wr)
    (fun i _ => ss.length - (intOf i).toNat)
  case atStart => exact ⟨0, _, Nat.zero_le _, rfl, hown, fun j hj => by omega, hb1⟩
  case round =>
    obtain ⟨k, xs, hk, rfl, hown, hxs, hnx⟩ := hrel
    by_cases hlt : k < ss.length
    · obtain ⟨b, off, spot⟩ := ad
      obtain ⟨hsp, hc0⟩ := hc k hlt
      simp only at hsp hc0
      subst hsp
      have hcx := cell_later hnx hc0
      obtain ⟨x, hx⟩ : ∃ x, x = ss.getD k ByteArray.empty := ⟨_, rfl⟩
      rw [← hx] at hcx
      have HX : Hid (x = ss.getD k ByteArray.empty) := hx
      have hfr := hown.frozenAt k
      have hct := hown.cellAt k (by omega)
      have hlen := hown.1
      rw [List.getElem?_eq_getElem (by omega)] at hct
      have HO := hown.stored k (.string x)
      clear hx hc0 hc hown
      go_wp2
      go_roundw
      case rel =>
        refine ⟨k + 1, xs.set k (.string x), by omega, by go_num, HO.1, fun j hj => ?_, hnx.grown HO.2 hnx.size (fun k h => by simp at h; omega)⟩
        by_cases e : j = k
        · subst e; rw [List.getElem?_set_self (by omega), HX.out]
        · rw [List.getElem?_set_ne (by omega)]; exact hxs j (by omega)
      case measure => simp [intOf]; omega
    · have hke : k = ss.length := by omega
      subst hke
      go_wp2
      go_ret
      exact ⟨w.heap.size, rfl, by have := (hown.lt w.heap.size rfl).2; omega, fun j hj => by rw [hown.cellAt j (by omega)]; exact hxs j hj, hnx⟩

/-- A slice of strings of the call's own: nothing is asked where there is none. -/
def OwnStrs (w : World) (a : Option Addr) (ss : List ByteArray) : Prop :=
  0 < ss.length → ∃ g, a = some ⟨g, 0, none⟩ ∧ g < w.heap.size ∧ ∀ j, j < ss.length → w.cell? ⟨g, j, none⟩ = some (.string (ss.getD j ByteArray.empty))

theorem OwnStrs.below {w w' : World} {B : Nat} {a : Option Addr} {ss : List ByteArray} (h : OwnStrs w a ss) (hb : Below B w w') (hB : w.heap.size ≤ B) : OwnStrs w' a ss := fun h0 => by
  obtain ⟨g, e, hg, hc⟩ := h h0
  exact ⟨g, e, Nat.lt_of_lt_of_le hg hb.size, fun j hj => (hb.cell (by show g < B; omega)).trans (hc j hj)⟩

theorem clone9_any {w : World} {a : Option Addr} {len cap : Nat} {ss : List ByteArray} (h : IsStrs w a len cap ss) (hn : ss.length ≤ 1048576) :
    Calls Try.prog 9 #[.slice a len cap] w fun e w' => ∃ a' c', e = .returned (.slice a' ss.length c') ∧ OwnStrs w' a' ss ∧ Below w.heap.size w w' := by
  obtain ⟨rfl, hm, hnil, hrow⟩ := h.row
  by_cases h0 : 0 < ss.length
  · obtain ⟨b, off, rfl, hc⟩ := hrow h0
    refine (clone9_row ⟨b, off, none⟩ cap ss w hn (fun j hj => ⟨rfl, hc j hj⟩)).mono fun e w' hh => ?_
    obtain ⟨g, he, hg, hcg, hb⟩ := hh
    exact ⟨_, _, he, fun _ => ⟨g, rfl, hg, hcg⟩, hb⟩
  · have e : ss = [] := List.eq_nil_of_length_eq_zero (by omega)
    subst e
    cases a with
    | none =>
      have := hnil rfl
      subst this
      exact (clone9_nil w).mono fun e w' hh => ⟨_, _, hh.1, fun h => absurd h h0, by rw [hh.2]; exact Below.refl _ _⟩
    | some ad =>
      refine (clone9_row ad cap [] w hn (fun j hj => by simp at hj)).mono fun e w' hh => ?_
      obtain ⟨g, he, _, _, hb⟩ := hh
      exact ⟨_, _, he, fun h => absurd h h0, hb⟩

end Go.Proofs.Qxb6600318a
