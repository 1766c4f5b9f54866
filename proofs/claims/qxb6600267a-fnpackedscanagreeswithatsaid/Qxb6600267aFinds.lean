/-
  THE LAW FnPackedScanFindsFirstNotBefore: her walk.
-/
import Derived.Test.Qxb6600267aScan24
import Derived.Test.Qxb6600267aRound
namespace Go.Proofs.Qxb6600267a
open Go.RowKit

/-! ### The shared steps, said of whatever slice of strings came in -/
theorem bytes14_any {w : World} {a : Option Addr} {len cap : Nat} {ss : List ByteArray} (h : IsStrs w a len cap ss) (p q r u : Int) (s : ByteArray) (hs : s.size ≤ maxLen) :
    Calls Try.prog 14 #[.slice a len cap, .int .i64 p, .int .i64 q, .int .i64 r, .int .i64 u, .string s] w fun e w' => Says e True ∧ w' = w := by
  obtain ⟨rfl, hm, _, hrow⟩ := h.row
  by_cases h0 : 0 < ss.length
  · obtain ⟨b, off, rfl, hc⟩ := hrow h0
    exact bytes14_row b off cap ss p q r u s w hm hs hc
  · have e : ss.length = 0 := by omega
    rw [e]; exact bytes14_none a cap p q r u s w hs

theorem bytes16_any {w : World} {a : Option Addr} {len cap : Nat} {ss : List ByteArray} (h : IsStrs w a len cap ss) (p q r u : Int) (s : ByteArray) (hs : s.size ≤ maxLen) :
    Calls Try.prog 16 #[.slice a len cap, .int .i64 p, .int .i64 q, .int .i64 r, .int .i64 u, .string s] w fun e w' => Says e True ∧ w' = w := by
  obtain ⟨rfl, hm, _, hrow⟩ := h.row
  by_cases h0 : 0 < ss.length
  · obtain ⟨b, off, rfl, hc⟩ := hrow h0
    exact bytes16_row b off cap ss p q r u s w hm hs hc
  · have e : ss.length = 0 := by omega
    rw [e]; exact bytes16_none a cap p q r u s w hs

theorem big10_any {w : World} {a : Option Addr} {len cap : Nat} {ss : List ByteArray} (h : IsStrs w a len cap ss) (ex : Nat) (hex : ex ≤ maxLen) :
    Calls Try.prog 10 #[.slice a len cap, .int .i64 ex] w fun e w' => Says e (ss.length ≤ 65536 ∧ ex + 16 * ss.length + Pk.tot ss ss.length ≤ 1048576) ∧ w' = w := by
  obtain ⟨rfl, hm, _, hrow⟩ := h.row
  by_cases h0 : 0 < ss.length
  · obtain ⟨b, off, rfl, hc⟩ := hrow h0
    exact big10_row b off cap ss ex w hm hex hc
  · have e : ss.length = 0 := by omega
    rw [e]
    refine (big10_none a cap ex w hex).mono fun e w' hh => ?_
    obtain ⟨⟨r, h1, h2⟩, h3⟩ := hh
    exact ⟨⟨r, h1, fun hr => ⟨by omega, by have := h2 hr; simp only [Pk.tot]; omega⟩⟩, h3⟩

/-- The copy. -/
theorem clone11_any {w : World} {a : Option Addr} {len cap : Nat} {ss : List ByteArray} (h : IsStrs w a len cap ss) (hn : ss.length ≤ 1048576) :
    Calls Try.prog 11 #[.slice a len cap] w fun e w' => ∃ a' c', e = .returned (.slice a' ss.length c') ∧ (0 < ss.length → ∃ g, a' = some ⟨g, 0, none⟩ ∧ c' = ss.length ∧ g < w'.heap.size ∧
      ∀ j, j < ss.length → w'.cell? ⟨g, j, none⟩ = some (.string (ss.getD j ByteArray.empty))) ∧ Below w.heap.size w w' := by
  obtain ⟨rfl, hm, hnil, hrow⟩ := h.row
  by_cases h0 : 0 < ss.length
  · obtain ⟨b, off, rfl, hc⟩ := hrow h0
    refine (clone11_row ⟨b, off, none⟩ cap ss w hn (fun j hj => ⟨rfl, hc j hj⟩)).mono fun e w' hh => ?_
    obtain ⟨g, he, hg, hcg, hb⟩ := hh
    exact ⟨_, _, he, fun _ => ⟨g, rfl, rfl, hg, hcg⟩, hb⟩
  · have e : ss = [] := List.eq_nil_of_length_eq_zero (by omega)
    subst e
    cases a with
    | none =>
      have := hnil rfl
      subst this
      exact (clone11_nil w).mono fun e w' hh => ⟨_, _, hh.1, fun h => absurd h h0, by rw [hh.2]; exact Below.refl _ _⟩
    | some ad =>
      refine (clone11_row ad cap [] w hn (fun j hj => by simp at hj)).mono fun e w' hh => ?_
      obtain ⟨g, he, _, _, hb⟩ := hh
      exact ⟨_, _, he, fun h => absurd h h0, hb⟩

/-- The packing, where of what it leaves no more is asked than that it is there. -/
theorem pack12_any {a : Option Addr} {c : Nat} {ss : List ByteArray} {w : World} (pb : Nat) (cp : Int) (hpb : 1 ≤ pb) (hpb' : pb ≤ 9223372036854775807) (hcp : -9223372036854775808 ≤ cp) (hcp' : cp ≤ 9223372036854775807)
    (h : 0 < ss.length → ∃ g, a = some ⟨g, 0, none⟩ ∧ c = ss.length ∧ g < w.heap.size ∧ ∀ j, j < ss.length → w.cell? ⟨g, j, none⟩ = some (.string (ss.getD j ByteArray.empty))) (hn : 16 * ss.length + Pk.tot ss ss.length ≤ 1048576) :
    Calls Try.prog 12 #[.slice a ss.length c, .int .i64 pb, .int .i64 cp] w fun e w' => ∃ T a' l c', e = .returned (.tuple #[.string T, .slice a' l c']) ∧ Below w.heap.size w w' := by
  by_cases h0 : 0 < ss.length
  · obtain ⟨g, rfl, rfl, hg, hc⟩ := h h0
    refine (pack12_open g ss.length ss pb cp w hpb hpb' hcp hcp' hg hc hn h0).mono fun e w' hh => ?_
    obtain ⟨gb, cb, he, _, _, hb⟩ := hh
    exact ⟨_, _, _, _, he, hb⟩
  · have e : ss.length = 0 := by omega
    rw [e]
    exact (pack12_none a c pb cp w).mono fun e w' hh => ⟨_, _, _, _, hh.1, by rw [hh.2]; exact Below.refl _ _⟩

/-! ### The law -/
set_option maxHeartbeats 800000 in
set_option maxRecDepth 100000 in
/-- perBlock below 1, or a range that is none of the list's: the law lets it by. -/
theorem finds4_out (a : Option Addr) (len cap : Nat) (ss : List ByteArray) (p q fr to' : Int) (s : ByteArray) (w : World) (h : IsStrs w a len cap ss) (hs : s.size ≤ maxLen)
    (ho : p < 1 ∨ (fr < to' ∧ (fr < 0 ∨ (ss.length : Int) < to'))) :
    Calls Try.prog 4 #[.slice a len cap, .int .i64 p, .int .i64 q, .int .i64 fr, .int .i64 to', .string s] w fun e w' => e = .returned (.bool true) ∧ Below w.heap.size w w' := by
  have HC14 := bytes14_any h p q fr to' s hs
  have HC10 := big10_any h s.size hs
  obtain rfl := h.row.1
  clear h hs
  by_cases hp : p < 1
  · go_enter Try.func4, Try.ntmps4
    go_wp2_with (first | (go_at_call 14; refine HC14.mono ?_; rintro e w' ⟨⟨r, rfl, _⟩, rfl⟩) | (go_at_call 10; refine HC10.mono ?_; rintro e w' ⟨⟨r2, rfl, _⟩, rfl⟩))
    all_goals (go_ret; exact ⟨rfl, Below.refl _ _⟩)
  · obtain ⟨hft, hor⟩ := ho.resolve_left hp
    clear ho
    have d1 : decide (fr < to') = true := decide_eq_true hft
    by_cases h0 : fr < 0
    · have d2 : decide (fr < 0) = true := decide_eq_true h0
      clear hor
      go_enter Try.func4, Try.ntmps4
      go_wp2_with (first | (go_at_call 14; refine HC14.mono ?_; rintro e w' ⟨⟨r, rfl, _⟩, rfl⟩) | (go_at_call 10; refine HC10.mono ?_; rintro e w' ⟨⟨r2, rfl, _⟩, rfl⟩))
      all_goals (go_ret; exact ⟨rfl, Below.refl _ _⟩)
    · have d2 : decide (fr < 0) = false := decide_eq_false h0
      have d3 : decide ((ss.length : Int) < to') = true := decide_eq_true (hor.resolve_left h0)
      clear hor
      go_enter Try.func4, Try.ntmps4
      go_wp2_with (first | (go_at_call 14; refine HC14.mono ?_; rintro e w' ⟨⟨r, rfl, _⟩, rfl⟩) | (go_at_call 10; refine HC10.mono ?_; rintro e w' ⟨⟨r2, rfl, _⟩, rfl⟩))
      all_goals (go_ret; exact ⟨rfl, Below.refl _ _⟩)

set_option maxHeartbeats 800000 in
set_option maxRecDepth 100000 in
/-- An empty range. -/
theorem finds4_empty (a : Option Addr) (len cap : Nat) (ss : List ByteArray) (pb : Nat) (q fr to' : Int) (s : ByteArray) (w : World) (h : IsStrs w a len cap ss) (hs : s.size ≤ maxLen) (hpb : 1 ≤ pb) (hpb' : pb ≤ 9223372036854775807)
    (hq : q ≤ 9223372036854775807) (hq0 : -9223372036854775808 ≤ q) (hft : ¬ fr < to') :
    Calls Try.prog 4 #[.slice a len cap, .int .i64 pb, .int .i64 q, .int .i64 fr, .int .i64 to', .string s] w fun e w' => e = .returned (.bool true) ∧ Below w.heap.size w w' := by
  have HC14 := bytes14_any h pb q fr to' s hs
  have HC10 := big10_any h s.size hs
  have HH : Hid (IsStrs w a len cap ss) := h
  obtain rfl := h.row.1
  have d1 : decide (fr < to') = false := decide_eq_false hft
  have hp1 : ¬ (pb : Int) < 1 := by omega
  clear h hs
  go_enter Try.func4, Try.ntmps4
  go_upto_if 31 with (first | (go_at_call 14; refine HC14.mono ?_; rintro e w' ⟨⟨r, rfl, _⟩, rfl⟩) | (go_at_call 10; refine HC10.mono ?_; rintro e w' ⟨⟨r2, rfl, hr2⟩, rfl⟩))
  · go_ret; exact ⟨rfl, Below.refl _ _⟩
  cases r2 with
  | true => go_wp2; go_ret; exact ⟨rfl, Below.refl _ _⟩
  | false =>
  obtain ⟨hn1, hn2⟩ := hr2 rfl
  have HC11 := clone11_any HH.out (by omega)
  clear hr2 HC14 HC10
  go_upto_region 10 with (go_at_call 11; refine HC11.mono ?_; rintro e w1 ⟨a', c', rfl, hrow, hb1⟩)
  have HC12 := pack12_any (w := w1) pb q hpb hpb' hq0 hq hrow (by omega)
  clear HC11 hrow
  go_wp2_with (first | (go_at_call 12; refine HC12.mono ?_; rintro e w2 ⟨T, ab, l, cb, rfl, hb2⟩) | (go_at_call 15; refine (zzscan15_empty _ _ _ _ _ _ _ _ _ _ (by omega)).mono ?_; rintro e w3 ⟨rfl, hb3⟩))
  refine wp_loop_rounds 1 ?_
  rw [rounds_succ]
  go_wp2
  go_ret
  exact ⟨by simp, hb1.trans ((hb2.trans (hb3.mono hb2.size)).mono hb1.size)⟩

/-- The first that is not before s is one. -/
theorem Found.hit {ss : List ByteArray} {s : ByteArray} {fr hi r m : Nat} {f : Bool} (h : Found ss s fr hi r f) (hm : fr ≤ m) (hmt : m < hi) (hl : ∀ j, fr ≤ j → j < m → Op.bytesLess (Pk.st ss j) s.data.toList = true) (hn : Op.bytesLess (Pk.st ss m) s.data.toList = false) :
    r = m ∧ f = decide (Pk.st ss m = s.data.toList) := by
  obtain ⟨h1, h2, h3, h4, h5⟩ := h
  have e : r = m := by
    rcases Nat.lt_trichotomy r m with g | g | g
    · have := hl r h1 g
      rw [(h4 (by omega)).1] at this; cases this
    · exact g
    · rw [h3 m hm g] at hn; cases hn
  subst e
  exact ⟨rfl, (h4 hmt).2⟩

theorem Found.miss {ss : List ByteArray} {s : ByteArray} {fr hi r : Nat} {f : Bool} (h : Found ss s fr hi r f) (hl : ∀ j, fr ≤ j → j < hi → Op.bytesLess (Pk.st ss j) s.data.toList = true) : r = hi ∧ f = false := by
  obtain ⟨h1, h2, h3, h4, h5⟩ := h
  have e : r = hi := by
    rcases Nat.lt_or_ge r hi with g | g
    · have := hl r h1 g
      rw [(h4 g).1] at this; cases this
    · omega
  exact ⟨e, h5 e⟩

set_option maxHeartbeats 1600000 in
set_option maxRecDepth 100000 in
/-- A range of the list. -/
theorem finds4_in (a : Option Addr) (len cap : Nat) (ss : List ByteArray) (pb : Nat) (q : Int) (fr hi : Nat) (s : ByteArray) (w : World) (h : IsStrs w a len cap ss) (hs : s.size ≤ maxLen) (hpb : 1 ≤ pb) (hpb' : pb ≤ 9223372036854775807)
    (hq : q ≤ 9223372036854775807) (hq0 : -9223372036854775808 ≤ q) (hft : fr < hi) (hto : hi ≤ ss.length) :
    Calls Try.prog 4 #[.slice a len cap, .int .i64 pb, .int .i64 q, .int .i64 fr, .int .i64 hi, .string s] w fun e w' => e = .returned (.bool true) ∧ Below w.heap.size w w' := by
  have HC14 := bytes14_any h pb q fr hi s hs
  have HC10 := big10_any h s.size hs
  have HH : Hid (IsStrs w a len cap ss) := h
  obtain rfl := h.row.1
  have d1 : decide ((fr : Int) < (hi : Int)) = true := decide_eq_true (by omega)
  have d2 : decide ((fr : Int) < 0) = false := decide_eq_false (by omega)
  have d3 : decide ((ss.length : Int) < (hi : Int)) = false := decide_eq_false (by omega)
  have hp1 : ¬ (pb : Int) < 1 := by omega
  clear h hs
  go_enter Try.func4, Try.ntmps4
  go_upto_if 31 with (first | (go_at_call 14; refine HC14.mono ?_; rintro e w' ⟨⟨r, rfl, _⟩, rfl⟩) | (go_at_call 10; refine HC10.mono ?_; rintro e w' ⟨⟨r2, rfl, hr2⟩, rfl⟩))
  · go_ret; exact ⟨rfl, Below.refl _ _⟩
  cases r2 with
  | true => go_wp2; go_ret; exact ⟨rfl, Below.refl _ _⟩
  | false =>
  obtain ⟨hn1, hn2⟩ := hr2 rfl
  have HC11 := clone11_any HH.out (by omega)
  clear hr2 HC14 HC10
  go_upto_region 10 with (go_at_call 11; refine HC11.mono ?_; rintro e w1 ⟨a', c', rfl, hrow, hb1⟩)
  obtain ⟨g, rfl, rfl, hg, hcg⟩ := hrow (by omega)
  have HC12 := pack12_open g ss.length ss pb q w1 hpb hpb' hq0 hq hg hcg (by omega) (by omega)
  have HCG : Hid (∀ j, j < ss.length → w1.cell? ⟨g, j, none⟩ = some (.string (ss.getD j ByteArray.empty))) := hcg
  clear HC11 hrow hcg
  go_upto_region 11 with (go_at_call 12; refine HC12.mono ?_; rintro e w2 ⟨gb, cb, rfl, hgb, hcb, hb2⟩)
  have HC15 := zzscan15_any gb pb cb ss.length ss q fr hi s w2 hpb hpb' (by omega) hft hto (by omega) hgb hcb
  clear HC12 hcb
  go_wp2_with (go_at_call 15; refine HC15.mono ?_; rintro e w3 ⟨r3, f3, rfl, hF, hb3⟩)
  have hcx : ∀ k, k < ss.length → w3.cell? ⟨g, k, none⟩ = some (.string (ss.getD k ByteArray.empty)) := fun k hk =>
    (hb3.cell (by have := hb2.size; show g < _; omega)).trans ((hb2.cell (by exact hg)).trans (HCG.out k hk))
  have hB : Below w'.heap.size w' w3 := hb1.trans ((hb2.trans (hb3.mono hb2.size)).mono hb1.size)
  have HF : Hid (Found ss s fr hi r3 f3) := hF
  have HCX : Hid (∀ k, k < ss.length → w3.cell? ⟨g, k, none⟩ = some (.string (ss.getD k ByteArray.empty))) := hcx
  clear HC15 hF hcx hb3 hb2 hb1
  go_loop [17, 18, 19] (fun v17 v18 v19 => ∃ m : Nat, fr ≤ m ∧ m ≤ hi ∧ v19 = .int .i64 m ∧ v17 = .int .i64 hi ∧ v18 = .bool false ∧ Hid (∀ j, fr ≤ j → j < m → Op.bytesLess (Pk.st ss j) s.data.toList = true)) (fun _ _ i => hi - (intOf i).toNat)
  case atStart => exact ⟨fr, Nat.le_refl _, by omega, rfl, rfl, rfl, fun j h1 h2 => by omega⟩
  case round =>
    obtain ⟨m, hm1, hm2, rfl, rfl, rfl, hl⟩ := hrel
    by_cases hlt : m < hi
    · have hcm := HCX.out m (by omega)
      obtain ⟨x, hx⟩ : ∃ x, x = ss.getD m ByteArray.empty := ⟨_, rfl⟩
      rw [← hx] at hcm
      have hst : Pk.st ss m = x.data.toList := by rw [hx]; rfl
      have HST : Hid (Pk.st ss m = x.data.toList) := hst
      clear hx
      cases hbl : Op.bytesLess (Pk.st ss m) s.data.toList with
      | true =>
        have hbl' : Op.bytesLess x.toList s.toList = true := by rw [ByteArray.toList_eq, ByteArray.toList_eq, ← hst]; exact hbl
        have hl' : Hid (∀ j, fr ≤ j → j < m + 1 → Op.bytesLess (Pk.st ss j) s.data.toList = true) := fun j h1 h2 => by
          by_cases e : j = m
          · subst e; exact hbl
          · exact hl.out j h1 (by omega)
        clear hbl hst
        go_wp2
        go_round
        case rel => first | exact ⟨m + 1, by omega, by omega, by go_num, rfl, rfl, hl'⟩ | ((repeat apply Exists.intro); refine ⟨?_, rfl⟩; exact ⟨m + 1, by omega, by omega, by go_num, rfl, rfl, hl'⟩)
        case measure => simp [intOf]; omega
      | false =>
        have hbl' : Op.bytesLess x.toList s.toList = false := by rw [ByteArray.toList_eq, ByteArray.toList_eq, ← hst]; exact hbl
        obtain ⟨hr, hf⟩ := HF.out.hit hm1 hlt hl.out hbl
        have hf' : f3 = (x.toList == s.toList) := by
          rw [hf, ByteArray.toList_eq, ByteArray.toList_eq, ← hst]
          by_cases e : Pk.st ss m = s.data.toList
          · rw [e]; simp
          · rw [decide_eq_false e]; symm; simpa using e
        clear HF hf hst
        subst hr
        subst hf'
        clear hbl
        go_wp2
        go_ret
        exact ⟨by simp, hB⟩
    · obtain ⟨hr, hf⟩ := HF.out.miss (fun j h1 h2 => hl.out j h1 (by omega))
      clear HF
      subst hr
      subst hf
      go_wp2
      go_ret
      exact ⟨by simp, hB⟩

theorem finds4_walk (a : Option Addr) (len cap : Nat) (ss : List ByteArray) (p q fr to' : Int) (s : ByteArray) (w : World) (h : IsStrs w a len cap ss) (hs : s.size ≤ maxLen) (hp : p ≤ 9223372036854775807)
    (hq : q ≤ 9223372036854775807) (hq0 : -9223372036854775808 ≤ q) :
    Calls Try.prog 4 #[.slice a len cap, .int .i64 p, .int .i64 q, .int .i64 fr, .int .i64 to', .string s] w fun e w' => e = .returned (.bool true) ∧ Below w.heap.size w w' := by
  by_cases ho : p < 1 ∨ (fr < to' ∧ (fr < 0 ∨ (ss.length : Int) < to'))
  · exact finds4_out a len cap ss p q fr to' s w h hs ho
  · obtain ⟨pb, rfl⟩ : ∃ pb : Nat, p = pb := ⟨p.toNat, by omega⟩
    by_cases hft : fr < to'
    · obtain ⟨f, rfl⟩ : ∃ f : Nat, fr = f := ⟨fr.toNat, by omega⟩
      obtain ⟨t, rfl⟩ : ∃ t : Nat, to' = t := ⟨to'.toNat, by omega⟩
      exact finds4_in a len cap ss pb q f t s w h hs (by omega) (by omega) hq hq0 (by omega) (by omega)
    · exact finds4_empty a len cap ss pb q fr to' s w h hs (by omega) (by omega) hq hq0 hft

end Go.Proofs.Qxb6600267a
