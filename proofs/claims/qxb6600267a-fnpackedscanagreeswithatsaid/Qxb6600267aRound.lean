/-
  THE LAW FnPackedAtRoundTrip: her walk.
-/
import Derived.Test.Qxb6600267aAt
import Derived.Deep.RegionWith
namespace Go.Proofs.Qxb6600267a
open Go.RowKit

set_option maxHeartbeats 800000 in
theorem pack12_none (a : Option Addr) (cap pb : Nat) (cp : Int) (w : World) :
    Calls Try.prog 12 #[.slice a 0 cap, .int .i64 pb, .int .i64 cp] w fun e w' => e = .returned (.tuple #[.string ByteArray.empty, .slice none 0 0]) ∧ w' = w := by
  have hcv := fun (wx : World) => run_convert_bytes_nil (P := Try.prog) wx 36 5 Try.underlying36 Try.underlying5 0 0 9 Try.underlying9
  go_enter Try.func12, Try.ntmps12
  go_wp2
  refine wp_loop_rounds 1 ?_
  rw [rounds_succ]
  go_wp2
  go_ret2
  exact ⟨rfl, rfl⟩

/-- No strings. -/
theorem round3_none (a : Option Addr) (cap : Nat) (p q : Int) (w : World) (h : a = none → cap = 0) (hp : p ≤ 9223372036854775807) (hp0 : -9223372036854775808 ≤ p) :
    Calls Try.prog 3 #[.slice a 0 cap, .int .i64 p, .int .i64 q] w fun e w' => e = .returned (.bool true) ∧ Below w.heap.size w w' := by
  have HC11 : Calls Try.prog 11 #[.slice a 0 cap] w fun e w' => (∃ a' cap', e = .returned (.slice a' 0 cap')) ∧ Below w.heap.size w w' := by
    cases a with
    | none =>
      have := h rfl
      subst this
      exact (clone11_nil w).mono fun e w' hh => ⟨⟨_, _, hh.1⟩, by rw [hh.2]; exact Below.refl _ _⟩
    | some ad =>
      exact (clone11_row ad cap [] w (by simp) (fun j hj => by simp at hj)).mono fun e w' hh => by
        obtain ⟨g, he, _, _, hb⟩ := hh
        exact ⟨⟨_, _, he⟩, hb⟩
  have HC9 := bytes9_none a cap p q w
  have HC10 := big10_none a cap 0 w (by unfold maxLen; omega)
  by_cases hp1 : p < 1
  · go_enter Try.func3, Try.ntmps3
    go_wp2_with (first | (go_at_call 9; refine HC9.mono ?_; rintro e w' ⟨⟨r, rfl, _⟩, rfl⟩) | (go_at_call 10; refine HC10.mono ?_; rintro e w' ⟨⟨r2, rfl, _⟩, rfl⟩))
    all_goals (go_ret; exact ⟨rfl, Below.refl _ _⟩)
  · obtain ⟨pb, rfl⟩ : ∃ pb : Nat, p = pb := ⟨p.toNat, by omega⟩
    have HC12 := fun a' cap' wx => pack12_none a' cap' pb q wx
    go_enter Try.func3, Try.ntmps3
    go_wp2_with (first | (go_at_call 9; refine HC9.mono ?_; rintro e w' ⟨⟨r, rfl, _⟩, rfl⟩) | (go_at_call 10; refine HC10.mono ?_; rintro e w' ⟨⟨r2, rfl, _⟩, rfl⟩) | (go_at_call 11; refine HC11.mono ?_; rintro e w1 ⟨⟨a', cap', rfl⟩, hb1⟩) | (go_at_call 12; refine (HC12 _ _ _).mono ?_; rintro e w2 ⟨rfl, rfl⟩))
    · go_ret; exact ⟨rfl, Below.refl _ _⟩
    · go_ret; exact ⟨rfl, Below.refl _ _⟩
    · refine wp_loop_rounds 1 ?_
      rw [rounds_succ]
      go_wp2
      go_ret
      exact ⟨rfl, hb1⟩

/-- What pack12_row leaves, the block starts' row laid open. -/
theorem pack12_open (g cap : Nat) (ss : List ByteArray) (pb : Nat) (cp : Int) (w : World) (hpb : 1 ≤ pb) (hpb' : pb ≤ 9223372036854775807) (hcp : -9223372036854775808 ≤ cp) (hcp' : cp ≤ 9223372036854775807)
    (hg : g < w.heap.size) (hc : ∀ j, j < ss.length → w.cell? ⟨g, j, none⟩ = some (.string (ss.getD j ByteArray.empty))) (hn : 16 * ss.length + Pk.tot ss ss.length ≤ 1048576) (h0 : 0 < ss.length) :
    Calls Try.prog 12 #[.slice (some ⟨g, 0, none⟩) ss.length cap, .int .i64 pb, .int .i64 cp] w fun e w' => ∃ gb cb, e = .returned (.tuple #[.string ⟨(Pk.buf ss pb cp ss.length).toArray⟩, .slice (some ⟨gb, 0, none⟩) (Pk.blk ss pb cp ss.length).length cb]) ∧ gb < w'.heap.size ∧
      (∀ j, j < (Pk.blk ss pb cp ss.length).length → w'.cell? ⟨gb, j, none⟩ = some (.int .u32 ((Pk.blk ss pb cp ss.length).getD j 0 : Nat))) ∧ Below w.heap.size w w' := by
  refine (pack12_row g cap ss pb cp w hpb hpb' hcp hcp' hg hc hn).mono fun e w' h => ?_
  obtain ⟨v, he, hown, hb⟩ := h
  have hl := (Pk.blk_get ss pb cp hpb ss.length 0 h0).1
  rw [Nat.zero_div] at hl
  obtain ⟨m, hm⟩ : ∃ m, (Pk.blk ss pb cp ss.length).length = m + 1 := ⟨(Pk.blk ss pb cp ss.length).length - 1, by omega⟩
  rw [hm] at hown ⊢
  obtain ⟨gb, cb, hv, _, hg', hc'⟩ := owned_at hown
  refine ⟨gb, cb, by rw [he, hv], hg', fun j hj => ?_, hb⟩
  rw [hc' j hj]
  have hj' : j < (Pk.blk ss pb cp ss.length).length := by omega
  rw [blc, List.getElem?_map, List.getElem?_eq_getElem hj', getD_at _ _ hj']
  rfl

set_option maxHeartbeats 1600000 in
set_option maxRecDepth 100000 in
theorem round3_row (b off cap : Nat) (ss : List ByteArray) (p q : Int) (w : World) (hp : p ≤ 9223372036854775807) (hp0 : -9223372036854775808 ≤ p) (hq : q ≤ 9223372036854775807) (hq0 : -9223372036854775808 ≤ q)
    (hm : ss.length ≤ maxLen) (h0 : 0 < ss.length) (hc : ∀ j, j < ss.length → w.cell? ⟨b, off + j, none⟩ = some (.string (ss.getD j ByteArray.empty))) :
    Calls Try.prog 3 #[.slice (some ⟨b, off, none⟩) ss.length cap, .int .i64 p, .int .i64 q] w fun e w' => e = .returned (.bool true) ∧ Below w.heap.size w w' := by
  have HC9 := bytes9_row b off cap ss p q w hm hc
  have HC10 := big10_row b off cap ss 0 w hm (by unfold maxLen; omega) hc
  by_cases hp1 : p < 1
  · clear hc
    go_enter Try.func3, Try.ntmps3
    go_wp2_with (first | (go_at_call 9; refine HC9.mono ?_; rintro e w' ⟨⟨r, rfl, _⟩, rfl⟩) | (go_at_call 10; refine HC10.mono ?_; rintro e w' ⟨⟨r2, rfl, _⟩, rfl⟩))
    all_goals (go_ret; exact ⟨rfl, Below.refl _ _⟩)
  obtain ⟨pb, rfl⟩ : ∃ pb : Nat, p = pb := ⟨p.toNat, by omega⟩
  have hpb : 1 ≤ pb := by omega
  have hpb' : pb ≤ 9223372036854775807 := by omega
  have HC : Hid (∀ j, j < ss.length → w.cell? ⟨b, off + j, none⟩ = some (.string (ss.getD j ByteArray.empty))) := hc
  clear hc
  go_enter Try.func3, Try.ntmps3
  go_upto_if 16 with (first | (go_at_call 9; refine HC9.mono ?_; rintro e w' ⟨⟨r, rfl, _⟩, rfl⟩) | (go_at_call 10; refine HC10.mono ?_; rintro e w' ⟨⟨r2, rfl, hr2⟩, rfl⟩))
  · go_ret; exact ⟨rfl, Below.refl _ _⟩
  cases r2 with
  | true => go_wp2; go_ret; exact ⟨rfl, Below.refl _ _⟩
  | false =>
  obtain ⟨hn1, hn2⟩ := hr2 rfl
  have hn : 16 * ss.length + Pk.tot ss ss.length ≤ 1048576 := by omega
  have HC11 := clone11_row ⟨b, off, none⟩ cap ss w' (by omega) (fun j hj => ⟨rfl, HC.out j hj⟩)
  clear hr2 HC9 HC10 hn2 hm
  go_upto_region 8 with (go_at_call 11; refine HC11.mono ?_; rintro e w1 ⟨g, rfl, hg, hcg, hb1⟩)
  have HC12 := pack12_open g ss.length ss pb q w1 hpb hpb' hq0 hq hg hcg hn h0
  have HCG : Hid (∀ j, j < ss.length → w1.cell? ⟨g, j, none⟩ = some (.string (ss.getD j ByteArray.empty))) := hcg
  obtain ⟨T, hT⟩ : ∃ T : ByteArray, T = ⟨(Pk.buf ss pb q ss.length).toArray⟩ := ⟨_, rfl⟩
  obtain ⟨L, hL⟩ : ∃ L, L = (Pk.blk ss pb q ss.length).length := ⟨_, rfl⟩
  rw [← hT, ← hL] at HC12
  have HT : Hid (T = ⟨(Pk.buf ss pb q ss.length).toArray⟩) := hT
  have HL : Hid (L = (Pk.blk ss pb q ss.length).length) := hL
  clear HC11 hcg hT hL
  go_wp2_with (go_at_call 12; refine HC12.mono ?_; rintro e w3 ⟨gb, cb, rfl, hgb, hcb, hb3⟩)
  have HCB : Hid (∀ j, j < L → w3.cell? ⟨gb, j, none⟩ = some (.int .u32 ((Pk.blk ss pb q ss.length).getD j 0 : Nat))) := hcb
  have hsz3 := hb3.size
  have hsz1 := hb1.size
  clear HC12 hcb
  go_loopw [9] (fun i wr => ∃ k : Nat, k ≤ ss.length ∧ i = .int .i64 k ∧ Below w3.heap.size w3 wr) (fun i _ => ss.length - (intOf i).toNat)
  case atStart => exact ⟨0, Nat.zero_le _, rfl, Below.refl _ _⟩
  case round =>
    obtain ⟨k, hk, rfl, hnx⟩ := hrel
    by_cases hlt : k < ss.length
    · obtain ⟨x, hx⟩ : ∃ x, x = ss.getD k ByteArray.empty := ⟨_, rfl⟩
      have hcx : ∀ wx : World, Below w3.heap.size w3 wx → wx.cell? ⟨g, k, none⟩ = some (.string x) := fun wx hb => by
        rw [hx]; exact (hb.cell (by show g < _; omega)).trans ((hb3.cell (by exact hg)).trans (HCG.out k hlt))
      have HC13 : ∀ wx : World, Below w3.heap.size w3 wx → Calls Try.prog 13 #[.string T, .slice (some ⟨gb, 0, none⟩) L cb, .int .i64 ss.length, .int .i64 pb, .int .i64 k] wx fun e w' => e = .returned (.string x) ∧ Below w3.heap.size w3 w' ∧ w'.cell? ⟨g, k, none⟩ = some (.string x) := by
        intro wx hb
        rw [HT.out, HL.out]
        have hs := hb.size
        refine (zzat13_any gb pb cb ss.length ss q k wx hpb hpb' hn hlt x hx (by omega) (fun j hj => ?_)).mono fun e w' hh => ?_
        · exact (hb.cell (by exact hgb)).trans (HCB.out j (by rw [HL.out]; exact hj))
        · have h2 := hb.trans (hh.2.mono hs)
          exact ⟨hh.1, h2, hcx _ h2⟩
      have hcr := hcx wr hnx
      have hlt1 : (k : Int) < (ss.length : Int) := by omega
      clear hx
      go_wp2_with fail
      go_region_with (go_at_call 13; refine (HC13 _ hnx.drew).mono ?_; rintro e w4 ⟨rfl, hb4, hc4⟩)
      all_goals
        go_wp2
        go_roundw
        case rel => exact ⟨k + 1, by omega, by go_num, hb4⟩
        case measure => simp [intOf]; omega
    · go_wp2
      go_ret
      exact ⟨rfl, hb1.trans ((hb3.trans (hnx.mono hsz3)).mono hsz1)⟩

/-- What the walk is told of a slice of strings that came in. -/
def IsStrs (w : World) (a : Option Addr) (len cap : Nat) (ss : List ByteArray) : Prop :=
  (a = none ∧ len = 0 ∧ cap = 0 ∧ ss = []) ∨
  ∃ x, a = some x ∧ len = ss.length ∧ len ≤ cap ∧ cap ≤ maxLen ∧ ∀ i, i < ss.length → w.cell? (x.add i) = some (.string (ss.getD i ByteArray.empty))

theorem IsStrs.row {w : World} {a : Option Addr} {len cap : Nat} {ss : List ByteArray} (h : IsStrs w a len cap ss) : len = ss.length ∧ ss.length ≤ maxLen ∧ (a = none → cap = 0) ∧
    (0 < ss.length → ∃ b off, a = some ⟨b, off, none⟩ ∧ ∀ j, j < ss.length → w.cell? ⟨b, off + j, none⟩ = some (.string (ss.getD j ByteArray.empty))) := by
  rcases h with ⟨rfl, rfl, rfl, rfl⟩ | ⟨x, rfl, rfl, hl, hm, hc⟩
  · exact ⟨rfl, Nat.zero_le _, fun _ => rfl, fun h => by simp at h⟩
  · refine ⟨rfl, by omega, (fun h => by cases h), fun h0 => ?_⟩
    obtain ⟨b, off, spot⟩ := x
    have hsp : spot = none := by simpa [Addr.add] using World.cell?_spot (hc 0 h0)
    subst hsp
    exact ⟨b, off, rfl, fun j hj => by rw [← Addr.add_lit]; exact hc j hj⟩

theorem round3_walk (a : Option Addr) (len cap : Nat) (ss : List ByteArray) (p q : Int) (w : World) (h : IsStrs w a len cap ss) (hp : p ≤ 9223372036854775807) (hp0 : -9223372036854775808 ≤ p) (hq : q ≤ 9223372036854775807) (hq0 : -9223372036854775808 ≤ q) :
    Calls Try.prog 3 #[.slice a len cap, .int .i64 p, .int .i64 q] w fun e w' => e = .returned (.bool true) ∧ Below w.heap.size w w' := by
  obtain ⟨rfl, hm, hnil, hrow⟩ := h.row
  by_cases h0 : 0 < ss.length
  · obtain ⟨b, off, rfl, hc⟩ := hrow h0
    exact round3_row b off cap ss p q w hp hp0 hq hq0 hm h0 hc
  · have e : ss.length = 0 := by omega
    rw [e]
    exact round3_none a cap p q w hnil hp hp0

end Go.Proofs.Qxb6600267a
