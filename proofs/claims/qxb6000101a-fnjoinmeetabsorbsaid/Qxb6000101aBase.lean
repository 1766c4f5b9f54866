/-
  THE GUARDS AND THE COPY: zzBytes_FnJoinMeetAbsorb, causalB1BytesOf, causalB1Copy.
-/
import Derived.Test.Qxb6000101aProg
import Derived.WalkKit
import Derived.WalkSpells
import Derived.WalkLawsBesides
import Derived.WalkSmall
import Derived.Deep.QuietTactic
import Derived.BigQuiet
import Derived.Deep.RegionWith
import Derived.Deep.DeepCutAuto
namespace Go.Proofs.Qxb6000101a
open Go.RowKit

theorem Try.info44 : (Try.prog.info? 44).map (fun i => (i.zero, i.size, i.bytes)) = some (some (.agg #[.string ByteArray.empty, .int .u64 0]), 2, 24) := by kernel_rfl
theorem Try.info9 : (Try.prog.info? 9).map (fun i => (i.zero, i.size, i.bytes)) = some (some (.string ByteArray.empty), 1, 16) := by kernel_rfl

/-- An entry, in plain words. -/
structure Prs where
  k : ByteArray
  s : Int

def Prs.nought : Prs := ⟨ByteArray.empty, 0⟩

/-- The entries lie from an address on, two cells each. -/
def PrsCells (w : World) (b off : Nat) (es : List Prs) : Prop := ∀ j, j < es.length →
  w.cell? ⟨b, off + j * 2, none⟩ = some (.string (es.getD j Prs.nought).k) ∧ w.cell? ⟨b, off + j * 2 + 1, none⟩ = some (.int .u64 (es.getD j Prs.nought).s)

def PrsOk (es : List Prs) : Prop := ∀ e ∈ es, e.k.size ≤ maxLen ∧ (Lit.int .u64 e.s).wf = true

theorem PrsOk.at {es : List Prs} (h : PrsOk es) (j : Nat) (hj : j < es.length) : (es.getD j Prs.nought).k.size ≤ maxLen ∧ (Lit.int .u64 (es.getD j Prs.nought).s).wf = true := by
  rw [List.getD, List.getElem?_eq_getElem hj]; exact h _ (List.getElem_mem hj)

/-- What the walk is told of a slice of entries that came in. -/
def IsPrs (w : World) (a : Option Addr) (len cap : Nat) (es : List Prs) : Prop :=
  PrsOk es ∧ len = es.length ∧ es.length ≤ maxLen ∧ (a = none → cap = 0) ∧ (0 < es.length → ∃ b off, a = some ⟨b, off, none⟩ ∧ PrsCells w b off es)

theorem PrsCells.later {w w' : World} {b off : Nat} {es : List Prs} (h : PrsCells w b off es) (hb : Below w.heap.size w w') : PrsCells w' b off es := fun j hj =>
  ⟨cell_later hb (h j hj).1, cell_later hb (h j hj).2⟩

theorem IsPrs.later {w w' : World} {a : Option Addr} {len cap : Nat} {es : List Prs} (h : IsPrs w a len cap es) (hb : Below w.heap.size w w') : IsPrs w' a len cap es :=
  ⟨h.1, h.2.1, h.2.2.1, h.2.2.2.1, fun h0 => by obtain ⟨b, off, e, hc⟩ := h.2.2.2.2 h0; exact ⟨b, off, e, hc.later hb⟩⟩

/-- A call that answers some bool. -/
def Says (e : Ending) : Prop := ∃ r : Bool, e = .returned (.bool r)
/-- A call that answers some int. -/
def Counts (e : Ending) : Prop := ∃ z : Int, e = .returned (.int .i64 z)

def BRel (n : Nat) (z i : Value) : Prop := ∃ (k t : Nat), k ≤ n ∧ i = .int .i64 k ∧ z = .int .i64 t ∧ t ≤ 1048576

set_option maxHeartbeats 1600000 in
theorem bytes26_any {w : World} {a1 a2 : Option Addr} {l1 l2 c1 c2 : Nat} {xs ys : List Prs} (h1 : IsPrs w a1 l1 c1 xs) (h2 : IsPrs w a2 l2 c2 ys) :
    Calls Try.prog 26 #[.slice a1 l1 c1, .slice a2 l2 c2] w fun e w' => Says e ∧ w' = w := by
  obtain ⟨_, rfl, hm1, _, hr1⟩ := h1
  obtain ⟨_, rfl, hm2, _, hr2⟩ := h2
  have HR1 : Hid (0 < xs.length → ∃ b off, a1 = some ⟨b, off, none⟩ ∧ PrsCells w b off xs) := hr1
  have HR2 : Hid (0 < ys.length → ∃ b off, a2 = some ⟨b, off, none⟩ ∧ PrsCells w b off ys) := hr2
  unfold maxLen at hm1 hm2
  clear hr1 hr2
  by_cases hn : xs.length ≤ 1048576
  · go_enter Try.func26, Try.ntmps26
    go_wp2
    go_loop [5, 6] (fun z i => BRel xs.length z i) (fun _ i => xs.length - (intOf i).toNat)
    case atStart => exact ⟨0, xs.length, Nat.zero_le _, rfl, rfl, hn⟩
    case round =>
      obtain ⟨k, t, hk, rfl, rfl, ht⟩ := hrel
      by_cases hlt : k < xs.length
      · obtain ⟨b, off, rfl, hc⟩ := HR1.out (by omega)
        obtain ⟨hcx, _⟩ := hc k hlt
        obtain ⟨x, hx⟩ : ∃ x, x = (xs.getD k Prs.nought).k := ⟨_, rfl⟩
        rw [← hx] at hcx
        clear hx hc
        go_wp2
        · go_ret; exact ⟨⟨_, rfl⟩, rfl⟩
        · go_ret; exact ⟨⟨_, rfl⟩, rfl⟩
        · go_round
          case rel => exact ⟨k + 1, t + x.size, by omega, by go_num, by go_num, by omega⟩
          case measure => simp [intOf]; omega
      · by_cases hn2 : 1048576 < ys.length
        · have d2 : decide ((1048576 : Int) < (ys.length : Int)) = true := decide_eq_true (by omega)
          go_wp2
          go_ret; exact ⟨⟨_, rfl⟩, rfl⟩
        · have d2 : decide ((1048576 : Int) < (ys.length : Int)) = false := decide_eq_false (by omega)
          by_cases hn3 : 1048576 < t + ys.length
          · have d3 : decide ((1048576 : Int) < (t : Int) + (ys.length : Int)) = true := decide_eq_true (by omega)
            go_wp2
            go_ret; exact ⟨⟨_, rfl⟩, rfl⟩
          · have d3 : decide ((1048576 : Int) < (t : Int) + (ys.length : Int)) = false := decide_eq_false (by omega)
            go_wp2
            go_loop [5, 7] (fun z i => BRel ys.length z i) (fun _ i => ys.length - (intOf i).toNat)
            case atStart => exact ⟨0, t + ys.length, Nat.zero_le _, rfl, by go_num, by omega⟩
            case round =>
              obtain ⟨k, t, hk, rfl, rfl, ht⟩ := hrel
              by_cases hlt : k < ys.length
              · obtain ⟨b, off, rfl, hc⟩ := HR2.out (by omega)
                obtain ⟨hcx, _⟩ := hc k hlt
                obtain ⟨x, hx⟩ : ∃ x, x = (ys.getD k Prs.nought).k := ⟨_, rfl⟩
                rw [← hx] at hcx
                clear hx hc
                go_wp2
                · go_ret; exact ⟨⟨_, rfl⟩, rfl⟩
                · go_ret; exact ⟨⟨_, rfl⟩, rfl⟩
                · go_round
                  case rel => exact ⟨k + 1, t + x.size, by omega, by go_num, by go_num, by omega⟩
                  case measure => simp [intOf]; omega
              · go_wp2
                go_ret; exact ⟨⟨_, rfl⟩, rfl⟩
  · go_enter Try.func26, Try.ntmps26
    go_wp2
    go_ret
    exact ⟨⟨_, rfl⟩, rfl⟩

def CRel (n : Nat) (z i : Value) : Prop := ∃ (k : Nat) (t : Int), k ≤ n ∧ i = .int .i64 k ∧ z = .int .i64 t

set_option maxHeartbeats 800000 in
theorem bytesOf12_any {w : World} {a : Option Addr} {len cap : Nat} {es : List Prs} (h : IsPrs w a len cap es) (hn : es.length ≤ 65536) :
    Calls Try.prog 12 #[.slice a len cap] w fun e w' => Counts e ∧ w' = w := by
  obtain ⟨_, rfl, _, _, hr⟩ := h
  have HR : Hid (0 < es.length → ∃ b off, a = some ⟨b, off, none⟩ ∧ PrsCells w b off es) := hr
  clear hr
  go_enter Try.func12, Try.ntmps12
  go_wp2
  go_loop [3, 4] (fun z i => CRel es.length z i) (fun _ i => es.length - (intOf i).toNat)
  case atStart => exact ⟨0, _, Nat.zero_le _, rfl, rfl⟩
  case round =>
    obtain ⟨k, t, hk, rfl, rfl⟩ := hrel
    by_cases hlt : k < es.length
    · obtain ⟨b, off, rfl, hc⟩ := HR.out (by omega)
      obtain ⟨hcx, _⟩ := hc k hlt
      obtain ⟨x, hx⟩ : ∃ x, x = (es.getD k Prs.nought).k := ⟨_, rfl⟩
      rw [← hx] at hcx
      clear hx hc
      go_wp2
      · go_ret
        exact ⟨⟨_, rfl⟩, rfl⟩
      · go_round
        case rel => exact ⟨k + 1, _, by omega, by go_num, rfl⟩
        case measure => simp [intOf]; omega
    · go_wp2
      go_ret
      exact ⟨⟨_, rfl⟩, rfl⟩

theorem copy13_nil (w : World) : Calls Try.prog 13 #[.slice none 0 0] w fun e w' => e = .returned (.slice none 0 0) ∧ w' = w := by
  have hq := fun (wx : World) (a : Option Addr) (n c : Nat) => Lib.run_eql_slice_nil (P := Try.prog) wx 22 44 a n c 0 0 Try.underlying22
  go_enter Try.func13, Try.ntmps13
  go_wp2
  go_ret
  exact ⟨rfl, rfl⟩

def CpRel (es : List Prs) (w : World) (v : Value) (wr : World) : Prop :=
  ∃ (k : Nat) (xs : List Value), k ≤ es.length ∧ v = .int .i64 k ∧ wr.ownsRow w.heap.size 44 2 (.slice (some ⟨w.heap.size, 0, none⟩) es.length es.length) es.length xs ∧
    (∀ j, j < k → xs[j * 2]? = some (.string (es.getD j Prs.nought).k) ∧ xs[j * 2 + 1]? = some (.int .u64 (es.getD j Prs.nought).s)) ∧ Below w.heap.size w wr

set_option maxHeartbeats 1600000 in
set_option maxRecDepth 100000 in
theorem copy13_row (ad : Addr) (cap : Nat) (es : List Prs) (w : World) (hn : es.length ≤ 65536) (hc : 0 < es.length → ad.spot = none ∧ PrsCells w ad.block ad.off es) :
    Calls Try.prog 13 #[.slice (some ad) es.length cap] w fun e w' => ∃ g, e = .returned (.slice (some ⟨g, 0, none⟩) es.length es.length) ∧ g < w'.heap.size ∧ PrsCells w' g 0 es ∧ Below w.heap.size w w' := by
  obtain ⟨i0, hi, hz0, hz1, hz2⟩ := info_parts Try.info44
  have hq := fun (wx : World) (a : Option Addr) (n c : Nat) => Lib.run_eql_slice_nil (P := Try.prog) wx 22 44 a n c 0 0 Try.underlying22
  have HC : Hid (0 < es.length → ad.spot = none ∧ PrsCells w ad.block ad.off es) := hc
  clear hc
  go_enter Try.func13, Try.ntmps13
  go_wp2_with (at_make; refine wpList_make_full _ rfl _ _ 22 rfl w.heap.size 44 i0 (.agg #[.string ByteArray.empty, .int .u64 0]) 2 Try.underlying22 hi hz0 hz1 _ _ _ _ es.length rfl rfl rfl rfl ?c1 ?c2 ?c3 ?_)
  case c1 => rw [hz2]; omega
  case c2 => unfold maxLen; omega
  case c3 => exact Nat.le_refl _
  intro w1 hown hgrow
  have hb1 : Below w.heap.size w w1 := (Below.refl _ _).grown hgrow (Nat.le_refl _) (fun k h => by cases h)
  clear hgrow hq
  go_wp2
  go_loopw [4] (fun v wr => CpRel es w v wr) (fun i _ => es.length - (intOf i).toNat)
  case atStart => exact ⟨0, _, Nat.zero_le _, rfl, hown, fun j hj => by omega, hb1⟩
  case round =>
    obtain ⟨k, xs, hk, rfl, hown, hxs, hnx⟩ := hrel
    have HXS : Hid (∀ j, j < k → xs[j * 2]? = some (.string (es.getD j Prs.nought).k) ∧ xs[j * 2 + 1]? = some (.int .u64 (es.getD j Prs.nought).s)) := hxs
    clear hxs
    by_cases hlt : k < es.length
    · obtain ⟨b, off, spot⟩ := ad
      obtain ⟨hsp, hc0⟩ := HC.out (by omega)
      simp only at hsp hc0
      subst hsp
      obtain ⟨hcx, hcy⟩ := hc0.later hnx k hlt
      obtain ⟨x, hx⟩ : ∃ x, x = (es.getD k Prs.nought).k := ⟨_, rfl⟩
      obtain ⟨z, hz⟩ : ∃ z, z = (es.getD k Prs.nought).s := ⟨_, rfl⟩
      rw [← hx] at hcx
      rw [← hz] at hcy
      have HX : Hid (x = (es.getD k Prs.nought).k) := hx
      have HZ : Hid (z = (es.getD k Prs.nought).s) := hz
      have hlen := hown.1
      have hf0 := hown.frozenAt (k * 2)
      have hf1 := hown.frozenAt (k * 2 + 1)
      have hq0 := hown.cellAt (k * 2) (by omega)
      have hq1 := hown.cellAt (k * 2 + 1) (by omega)
      rw [List.getElem?_eq_getElem (by omega)] at hq0 hq1
      have O1 := hown.stored (k * 2) (.string x)
      have O2 := O1.1.stored (k * 2 + 1) (.int .u64 z)
      have HO2 : Hid (_) := O2.1
      have HB2 : Below w.heap.size w ((wr.setCell ⟨w.heap.size, k * 2, none⟩ (.string x)).setCell ⟨w.heap.size, k * 2 + 1, none⟩ (.int .u64 z)) :=
        (hnx.setCell (p := ⟨w.heap.size, k * 2, none⟩) (Nat.le_refl _) _).setCell (p := ⟨w.heap.size, k * 2 + 1, none⟩) (Nat.le_refl _) _
      clear O1 O2 hown hnx hx hz hc0
      go_wp2
      go_roundw
      case rel =>
        refine ⟨k + 1, _, by omega, by go_num, HO2.out, fun j hj => ?_, HB2⟩
        by_cases e : j = k
        · subst e
          refine ⟨?_, ?_⟩
          · rw [List.getElem?_set_ne (by omega), List.getElem?_set_self (by omega), HX.out]
          · rw [List.getElem?_set_self (by simp; omega), HZ.out]
        · obtain ⟨e1, e2⟩ := HXS.out j (by omega)
          refine ⟨?_, ?_⟩
          · rw [List.getElem?_set_ne (by omega), List.getElem?_set_ne (by omega)]; exact e1
          · rw [List.getElem?_set_ne (by omega), List.getElem?_set_ne (by omega)]; exact e2
      case measure => simp [intOf]; omega
    · have hke : k = es.length := by omega
      subst hke
      go_wp2
      go_ret
      refine ⟨w.heap.size, rfl, (hown.lt w.heap.size rfl).2, fun j hj => ?_, hnx⟩
      obtain ⟨e1, e2⟩ := HXS.out j hj
      simp only [Nat.zero_add]
      rw [hown.cellAt (j * 2) (by omega), hown.cellAt (j * 2 + 1) (by omega)]
      exact ⟨e1, e2⟩

/-- The copy: nil stays nil. -/
theorem copy13_any {w : World} {a : Option Addr} {len cap : Nat} {es : List Prs} (h : IsPrs w a len cap es) (hn : es.length ≤ 65536) :
    Calls Try.prog 13 #[.slice a len cap] w fun e w' => ∃ a' c', e = .returned (.slice a' es.length c') ∧ IsPrs w' a' es.length c' es ∧ Below w.heap.size w w' := by
  obtain ⟨hok, rfl, hm, hnil, hr⟩ := h
  cases a with
  | none =>
    have e0 : es = [] := by
      rcases Nat.eq_zero_or_pos es.length with h | h
      · exact List.eq_nil_of_length_eq_zero h
      · obtain ⟨_, _, e, _⟩ := hr h; cases e
    subst e0
    have := hnil rfl
    subst this
    exact (copy13_nil w).mono fun e w' hh => ⟨none, 0, hh.1, ⟨hok, rfl, hm, fun _ => rfl, fun h => by simp at h⟩, by rw [hh.2]; exact Below.refl _ _⟩
  | some ad =>
    refine (copy13_row ad cap es w hn (fun h0 => ?_)).mono fun e w' hh => ?_
    · obtain ⟨b, off, e, hc⟩ := hr h0
      cases e
      exact ⟨rfl, hc⟩
    · obtain ⟨g, he, _, hcg, hb⟩ := hh
      exact ⟨_, _, he, ⟨hok, rfl, hm, (fun h => by cases h), fun _ => ⟨g, 0, rfl, hcg⟩⟩, hb⟩

end Go.Proofs.Qxb6000101a
