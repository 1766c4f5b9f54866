/-
  THE LAW FnPackedScanAgreesWithAt: her walk.
-/
import Derived.Test.Qxb6600267aFinds
namespace Go.Proofs.Qxb6600267a
open Go.RowKit

/-! ### The law -/
set_option maxHeartbeats 800000 in
set_option maxRecDepth 100000 in
/-- perBlock below 1, or a range that is none of the list's: the law lets it by. -/
theorem agrees5_out (a : Option Addr) (len cap : Nat) (ss : List ByteArray) (p q fr to' : Int) (s : ByteArray) (w : World) (h : IsStrs w a len cap ss) (hs : s.size ≤ maxLen)
    (ho : p < 1 ∨ (fr < to' ∧ (fr < 0 ∨ (ss.length : Int) < to'))) :
    Calls Try.prog 5 #[.slice a len cap, .int .i64 p, .int .i64 q, .int .i64 fr, .int .i64 to', .string s] w fun e w' => e = .returned (.bool true) ∧ Below w.heap.size w w' := by
  have HC16 := bytes16_any h p q fr to' s hs
  have HC10 := big10_any h s.size hs
  obtain rfl := h.row.1
  clear h hs
  by_cases hp : p < 1
  · go_enter Try.func5, Try.ntmps5
    go_wp2_with (first | (go_at_call 16; refine HC16.mono ?_; rintro e w' ⟨⟨r, rfl, _⟩, rfl⟩) | (go_at_call 10; refine HC10.mono ?_; rintro e w' ⟨⟨r2, rfl, _⟩, rfl⟩))
    all_goals (go_ret; exact ⟨rfl, Below.refl _ _⟩)
  · obtain ⟨hft, hor⟩ := ho.resolve_left hp
    clear ho
    have d1 : decide (fr < to') = true := decide_eq_true hft
    by_cases h0 : fr < 0
    · have d2 : decide (fr < 0) = true := decide_eq_true h0
      clear hor
      go_enter Try.func5, Try.ntmps5
      go_wp2_with (first | (go_at_call 16; refine HC16.mono ?_; rintro e w' ⟨⟨r, rfl, _⟩, rfl⟩) | (go_at_call 10; refine HC10.mono ?_; rintro e w' ⟨⟨r2, rfl, _⟩, rfl⟩))
      all_goals (go_ret; exact ⟨rfl, Below.refl _ _⟩)
    · have d2 : decide (fr < 0) = false := decide_eq_false h0
      have d3 : decide ((ss.length : Int) < to') = true := decide_eq_true (hor.resolve_left h0)
      clear hor
      go_enter Try.func5, Try.ntmps5
      go_wp2_with (first | (go_at_call 16; refine HC16.mono ?_; rintro e w' ⟨⟨r, rfl, _⟩, rfl⟩) | (go_at_call 10; refine HC10.mono ?_; rintro e w' ⟨⟨r2, rfl, _⟩, rfl⟩))
      all_goals (go_ret; exact ⟨rfl, Below.refl _ _⟩)

set_option maxHeartbeats 800000 in
set_option maxRecDepth 100000 in
/-- An empty range. -/
theorem agrees5_empty (a : Option Addr) (len cap : Nat) (ss : List ByteArray) (pb : Nat) (q fr to' : Int) (s : ByteArray) (w : World) (h : IsStrs w a len cap ss) (hs : s.size ≤ maxLen) (hpb : 1 ≤ pb) (hpb' : pb ≤ 9223372036854775807)
    (hq : q ≤ 9223372036854775807) (hq0 : -9223372036854775808 ≤ q) (hft : ¬ fr < to') :
    Calls Try.prog 5 #[.slice a len cap, .int .i64 pb, .int .i64 q, .int .i64 fr, .int .i64 to', .string s] w fun e w' => e = .returned (.bool true) ∧ Below w.heap.size w w' := by
  have HC16 := bytes16_any h pb q fr to' s hs
  have HC10 := big10_any h s.size hs
  have HH : Hid (IsStrs w a len cap ss) := h
  obtain rfl := h.row.1
  have d1 : decide (fr < to') = false := decide_eq_false hft
  have hp1 : ¬ (pb : Int) < 1 := by omega
  clear h hs
  go_enter Try.func5, Try.ntmps5
  go_upto_if 31 with (first | (go_at_call 16; refine HC16.mono ?_; rintro e w' ⟨⟨r, rfl, _⟩, rfl⟩) | (go_at_call 10; refine HC10.mono ?_; rintro e w' ⟨⟨r2, rfl, hr2⟩, rfl⟩))
  · go_ret; exact ⟨rfl, Below.refl _ _⟩
  cases r2 with
  | true => go_wp2; go_ret; exact ⟨rfl, Below.refl _ _⟩
  | false =>
  obtain ⟨hn1, hn2⟩ := hr2 rfl
  have HC11 := clone11_any HH.out (by omega)
  clear hr2 HC16 HC10
  go_upto_region 10 with (go_at_call 11; refine HC11.mono ?_; rintro e w1 ⟨a', c', rfl, hrow, hb1⟩)
  have HC12 := pack12_any (w := w1) pb q hpb hpb' hq0 hq hrow (by omega)
  clear HC11 hrow
  go_wp2_with (first | (go_at_call 12; refine HC12.mono ?_; rintro e w2 ⟨T, ab, l, cb, rfl, hb2⟩) | (go_at_call 15; refine (zzscan15_empty _ _ _ _ _ _ _ _ _ _ (by omega)).mono ?_; rintro e w3 ⟨rfl, hb3⟩))
  go_ret
  exact ⟨by simp, hb1.trans ((hb2.trans (hb3.mono hb2.size)).mono hb1.size)⟩

set_option maxHeartbeats 1600000 in
set_option maxRecDepth 100000 in
/-- A range of the list. -/
theorem agrees5_in (a : Option Addr) (len cap : Nat) (ss : List ByteArray) (pb : Nat) (q : Int) (fr hi : Nat) (s : ByteArray) (w : World) (h : IsStrs w a len cap ss) (hs : s.size ≤ maxLen) (hpb : 1 ≤ pb) (hpb' : pb ≤ 9223372036854775807)
    (hq : q ≤ 9223372036854775807) (hq0 : -9223372036854775808 ≤ q) (hft : fr < hi) (hto : hi ≤ ss.length) :
    Calls Try.prog 5 #[.slice a len cap, .int .i64 pb, .int .i64 q, .int .i64 fr, .int .i64 hi, .string s] w fun e w' => e = .returned (.bool true) ∧ Below w.heap.size w w' := by
  have HC16 := bytes16_any h pb q fr hi s hs
  have HC10 := big10_any h s.size hs
  have HH : Hid (IsStrs w a len cap ss) := h
  obtain rfl := h.row.1
  have d1 : decide ((fr : Int) < (hi : Int)) = true := decide_eq_true (by omega)
  have d2 : decide ((fr : Int) < 0) = false := decide_eq_false (by omega)
  have d3 : decide ((ss.length : Int) < (hi : Int)) = false := decide_eq_false (by omega)
  have d4 : ¬ hi ≤ fr := by omega
  have hp1 : ¬ (pb : Int) < 1 := by omega
  clear h hs
  go_enter Try.func5, Try.ntmps5
  go_upto_if 31 with (first | (go_at_call 16; refine HC16.mono ?_; rintro e w' ⟨⟨r, rfl, _⟩, rfl⟩) | (go_at_call 10; refine HC10.mono ?_; rintro e w' ⟨⟨r2, rfl, hr2⟩, rfl⟩))
  · go_ret; exact ⟨rfl, Below.refl _ _⟩
  cases r2 with
  | true => go_wp2; go_ret; exact ⟨rfl, Below.refl _ _⟩
  | false =>
  obtain ⟨hn1, hn2⟩ := hr2 rfl
  have HC11 := clone11_any HH.out (by omega)
  clear hr2 HC16 HC10
  go_upto_region 10 with (go_at_call 11; refine HC11.mono ?_; rintro e w1 ⟨a', c', rfl, hrow, hb1⟩)
  obtain ⟨g, rfl, rfl, hg, hcg⟩ := hrow (by omega)
  have HC12 := pack12_open g ss.length ss pb q w1 hpb hpb' hq0 hq hg hcg (by omega) (by omega)
  have HCG : Hid (∀ j, j < ss.length → w1.cell? ⟨g, j, none⟩ = some (.string (ss.getD j ByteArray.empty))) := hcg
  clear HC11 hrow hcg
  go_upto_region 12 with (go_at_call 12; refine HC12.mono ?_; rintro e w2 ⟨gb, cb, rfl, hgb, hcb, hb2⟩)
  have HC15 := zzscan15_any gb pb cb ss.length ss q fr hi s w2 hpb hpb' (by omega) hft hto (by omega) hgb hcb
  have HCB : Hid (∀ j, j < (Pk.blk ss pb q ss.length).length → w2.cell? ⟨gb, j, none⟩ = some (.int .u32 ((Pk.blk ss pb q ss.length).getD j 0 : Nat))) := hcb
  clear HC12 hcb
  go_wp2_with (go_at_call 15; refine HC15.mono ?_; rintro e w3 ⟨r3, f3, rfl, hF, hb3⟩; have hr1 := hF.1; have hr3 := hF.2.1; have d5 : ¬ r3 < fr := (by omega); have d6 : ¬ hi < r3 := (by omega))
  have hB : Below w'.heap.size w' w3 := hb1.trans ((hb2.trans (hb3.mono hb2.size)).mono hb1.size)
  have hsB := hB.size
  have HF : Hid (Found ss s fr hi r3 f3) := hF
  have hs3 := hb3.size
  have hn : 16 * ss.length + Pk.tot ss ss.length ≤ 1048576 := by omega
  have HC13 : ∀ (wx : World) (m : Nat) (x : ByteArray), Below w3.heap.size w3 wx → m < ss.length → Hid (x = ss.getD m ByteArray.empty) → Calls Try.prog 13 #[.string ⟨(Pk.buf ss pb q ss.length).toArray⟩, .slice (some ⟨gb, 0, none⟩) (Pk.blk ss pb q ss.length).length cb, .int .i64 ss.length, .int .i64 pb, .int .i64 m] wx fun e w' => e = .returned (.string x) ∧ Below w3.heap.size w3 w' := by
    intro wx m x hb hm hx
    have hs := hb.size
    refine (zzat13_any gb pb cb ss.length ss q m wx hpb hpb' hn hm x hx (by omega) (fun j hj => ?_)).mono fun e w' hh => ⟨hh.1, hb.trans (hh.2.mono hs)⟩
    exact (hb.cell (by show gb < _; omega)).trans ((hb3.cell (by exact hgb)).trans (HCB.out j hj))
  have hxs : ∀ m, ∃ x, x = ss.getD m ByteArray.empty ∧ x.data.toList = Pk.st ss m := fun m => ⟨_, rfl, rfl⟩
  clear HC15 hF hb3 hb2 hb1
  go_loopw [18] (fun v wr => ∃ m : Nat, fr ≤ m ∧ m ≤ r3 ∧ v = .int .i64 m ∧ Below w3.heap.size w3 wr) (fun i _ => r3 - (intOf i).toNat)
  case atStart => exact ⟨fr, Nat.le_refl _, hr1, rfl, Below.refl _ _⟩
  case round =>
    obtain ⟨m, hm1, hm2, rfl, hnx⟩ := hrel
    by_cases hlt : m < r3
    · obtain ⟨x, hx, hxst⟩ := hxs m
      have hbl : Op.bytesLess x.toList s.toList = true := by
        rw [ByteArray.toList_eq, ByteArray.toList_eq, hxst]; exact HF.out.2.2.1 m hm1 hlt
      have HC := HC13 wr m x hnx (by omega) hx
      clear hx hxst hxs HC13
      go_wp2_with (go_at_call 13; refine HC.mono ?_; rintro e w4 ⟨rfl, hb4⟩)
      go_roundw
      case rel => first | exact ⟨m + 1, by omega, by omega, by go_num, hb4⟩ | ((repeat apply Exists.intro); refine ⟨?_, rfl⟩; exact ⟨m + 1, by omega, by omega, by go_num, hb4⟩)
      case measure => simp [intOf]; omega
    · by_cases hrt : r3 = hi
      · have hb5 : ((r3 : Int) == (hi : Int)) = true := by simp; omega
        have hf := HF.out.2.2.2.2 hrt
        subst hf
        clear hrt HC13 hxs
        go_wp2
        go_ret
        exact ⟨by simp, hB.trans (hnx.mono hsB)⟩
      · have hb5 : ((r3 : Int) == (hi : Int)) = false := by simp; omega
        obtain ⟨x, hx, hxst⟩ := hxs r3
        obtain ⟨hn1', hf⟩ := HF.out.2.2.2.1 (by omega)
        have hbl : Op.bytesLess x.toList s.toList = false := by
          rw [ByteArray.toList_eq, ByteArray.toList_eq, hxst]; exact hn1'
        have hf' : f3 = (x.toList == s.toList) := by
          rw [hf, ByteArray.toList_eq, ByteArray.toList_eq, hxst]
          by_cases e : Pk.st ss r3 = s.data.toList
          · rw [e]; simp
          · rw [decide_eq_false e]; symm; simpa using e
        have HC := HC13 wr r3 x hnx (by omega) hx
        clear hx hxst hxs HC13 HF hn1' hf hrt
        subst hf'
        go_wp2_with (go_at_call 13; refine HC.mono ?_; rintro e w4 ⟨rfl, hb4⟩)
        go_ret
        exact ⟨by simp, hB.trans (hb4.mono hsB)⟩

theorem agrees5_walk (a : Option Addr) (len cap : Nat) (ss : List ByteArray) (p q fr to' : Int) (s : ByteArray) (w : World) (h : IsStrs w a len cap ss) (hs : s.size ≤ maxLen) (hp : p ≤ 9223372036854775807)
    (hq : q ≤ 9223372036854775807) (hq0 : -9223372036854775808 ≤ q) :
    Calls Try.prog 5 #[.slice a len cap, .int .i64 p, .int .i64 q, .int .i64 fr, .int .i64 to', .string s] w fun e w' => e = .returned (.bool true) ∧ Below w.heap.size w w' := by
  by_cases ho : p < 1 ∨ (fr < to' ∧ (fr < 0 ∨ (ss.length : Int) < to'))
  · exact agrees5_out a len cap ss p q fr to' s w h hs ho
  · obtain ⟨pb, rfl⟩ : ∃ pb : Nat, p = pb := ⟨p.toNat, by omega⟩
    by_cases hft : fr < to'
    · obtain ⟨f, rfl⟩ : ∃ f : Nat, fr = f := ⟨fr.toNat, by omega⟩
      obtain ⟨t, rfl⟩ : ∃ t : Nat, to' = t := ⟨to'.toNat, by omega⟩
      exact agrees5_in a len cap ss pb q f t s w h hs (by omega) (by omega) hq hq0 (by omega) (by omega)
    · exact agrees5_empty a len cap ss pb q fr to' s w h hs (by omega) (by omega) hq hq0 hft

end Go.Proofs.Qxb6600267a
