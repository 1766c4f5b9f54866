/-
  THE GUARD AND THE COPIES OF FnQueueUpToExact; zzEntries.
-/
import Derived.Test.Qxb6600318aBase
namespace Go.Proofs.Qxb6600318a
open Go.RowKit

theorem Try.info2 : (Try.prog.info? 2).map (fun i => (i.zero, i.size, i.bytes)) = some (some (.int .i64 0), 1, 8) := by kernel_rfl
theorem Try.info32 : (Try.prog.info? 32).map (fun i => (i.zero, i.size, i.bytes)) = some (some (.agg #[.string ByteArray.empty, .string ByteArray.empty, .int .i64 0]), 3, 40) := by kernel_rfl

/-- What the walk is told of a slice of int64s that came in. -/
def IsInts (w : World) (a : Option Addr) (len cap : Nat) (zs : List Int) : Prop :=
  (∀ z ∈ zs, (Lit.int .i64 z).wf = true) ∧ ((a = none ∧ len = 0 ∧ cap = 0 ∧ zs = []) ∨
  ∃ x, a = some x ∧ len = zs.length ∧ len ≤ cap ∧ cap ≤ maxLen ∧ ∀ i, i < zs.length → w.cell? (x.add i) = some (.int .i64 (zs.getD i 0)))

theorem IsInts.row {w : World} {a : Option Addr} {len cap : Nat} {zs : List Int} (h : IsInts w a len cap zs) : len = zs.length ∧ zs.length ≤ maxLen ∧ (a = none → cap = 0) ∧
    (0 < zs.length → ∃ b off, a = some ⟨b, off, none⟩ ∧ ∀ j, j < zs.length → w.cell? ⟨b, off + j, none⟩ = some (.int .i64 (zs.getD j 0))) := by
  rcases h.2 with ⟨rfl, rfl, rfl, rfl⟩ | ⟨x, rfl, rfl, hl, hm, hc⟩
  · exact ⟨rfl, Nat.zero_le _, fun _ => rfl, fun h => by simp at h⟩
  · refine ⟨rfl, by omega, (fun h => by cases h), fun h0 => ?_⟩
    obtain ⟨b, off, spot⟩ := x
    have hsp : spot = none := by simpa [Addr.add] using World.cell?_spot (hc 0 h0)
    subst hsp
    exact ⟨b, off, rfl, fun j hj => by rw [← Addr.add_lit]; exact hc j hj⟩

def SumRel (n : Nat) (v11 v12 : Value) : Prop := ∃ (k t : Nat), k ≤ n ∧ v12 = .int .i64 k ∧ v11 = .int .i64 t ∧ t ≤ 1048576

set_option maxHeartbeats 800000 in
set_option maxRecDepth 100000 in
theorem bytes7_any {w : World} {a1 a2 a3 : Option Addr} {l1 l2 l3 c1 c2 c3 : Nat} {ks vs : List ByteArray} {rs : List Int} (hk : IsStrs w a1 l1 c1 ks) (hv : IsStrs w a2 l2 c2 vs) (hr : IsInts w a3 l3 c3 rs) (q r : Int) :
    Calls Try.prog 7 #[.slice a1 l1 c1, .slice a2 l2 c2, .slice a3 l3 c3, .int .i64 q, .int .i64 r] w fun e w' => Says e ∧ w' = w := by
  obtain ⟨rfl, hm1, _, hrow1⟩ := hk.row
  obtain ⟨rfl, hm2, _, hrow2⟩ := hv.row
  obtain ⟨rfl, hm3, _, _⟩ := hr.row
  unfold maxLen at hm1 hm2 hm3
  have HR1 : Hid (0 < ks.length → ∃ b off, a1 = some ⟨b, off, none⟩ ∧ ∀ j, j < ks.length → w.cell? ⟨b, off + j, none⟩ = some (.string (ks.getD j ByteArray.empty))) := hrow1
  have HR2 : Hid (0 < vs.length → ∃ b off, a2 = some ⟨b, off, none⟩ ∧ ∀ j, j < vs.length → w.cell? ⟨b, off + j, none⟩ = some (.string (vs.getD j ByteArray.empty))) := hrow2
  clear hk hv hr hrow1 hrow2
  by_cases hn : ks.length ≤ 1048576
  · go_enter Try.func7, Try.ntmps7
    go_wp2
    go_loop [11, 12] (fun v11 v12 => SumRel ks.length v11 v12) (fun _ i => ks.length - (intOf i).toNat)
    case atStart => exact ⟨0, ks.length, Nat.zero_le _, rfl, rfl, hn⟩
    case round =>
      obtain ⟨k, t, hk, rfl, rfl, ht⟩ := hrel
      by_cases hlt : k < ks.length
      · obtain ⟨b, off, rfl, hc⟩ := HR1.out (by omega)
        have hcx := hc k hlt
        obtain ⟨x, hx⟩ : ∃ x, x = ks.getD k ByteArray.empty := ⟨_, rfl⟩
        rw [← hx] at hcx
        clear hx hc
        go_wp2
        · go_ret; exact ⟨⟨_, rfl⟩, rfl⟩
        · go_ret; exact ⟨⟨_, rfl⟩, rfl⟩
        · go_round
          case rel => exact ⟨k + 1, t + x.size, by omega, by go_num, by go_num, by omega⟩
          case measure => simp [intOf]; omega
      · by_cases hn2 : vs.length ≤ 1048576
        · by_cases hn3 : t + vs.length ≤ 1048576
          · go_wp2
            go_loop [11, 13] (fun v11 v13 => SumRel vs.length v11 v13) (fun _ i => vs.length - (intOf i).toNat)
            case atStart => exact ⟨0, t + vs.length, Nat.zero_le _, rfl, by go_num, hn3⟩
            case round =>
              obtain ⟨k2, t2, hk2, rfl, rfl, ht2⟩ := hrel
              by_cases hlt2 : k2 < vs.length
              · obtain ⟨b, off, rfl, hc⟩ := HR2.out (by omega)
                have hcx := hc k2 hlt2
                obtain ⟨x, hx⟩ : ∃ x, x = vs.getD k2 ByteArray.empty := ⟨_, rfl⟩
                rw [← hx] at hcx
                clear hx hc
                go_wp2
                · go_ret; exact ⟨⟨_, rfl⟩, rfl⟩
                · go_ret; exact ⟨⟨_, rfl⟩, rfl⟩
                · go_round
                  case rel => exact ⟨k2 + 1, t2 + x.size, by omega, by go_num, by go_num, by omega⟩
                  case measure => simp [intOf]; omega
              · go_wp2
                all_goals (go_ret; exact ⟨⟨_, rfl⟩, rfl⟩)
          · go_wp2
            go_ret; exact ⟨⟨_, rfl⟩, rfl⟩
        · go_wp2
          go_ret; exact ⟨⟨_, rfl⟩, rfl⟩
  · go_enter Try.func7, Try.ntmps7
    go_wp2
    go_ret
    exact ⟨⟨_, rfl⟩, rfl⟩

/-- A slice of int64s of the call's own. -/
def OwnInts (w : World) (a : Option Addr) (zs : List Int) : Prop :=
  0 < zs.length → ∃ g, a = some ⟨g, 0, none⟩ ∧ g < w.heap.size ∧ ∀ j, j < zs.length → w.cell? ⟨g, j, none⟩ = some (.int .i64 (zs.getD j 0))

theorem OwnInts.below {w w' : World} {B : Nat} {a : Option Addr} {zs : List Int} (h : OwnInts w a zs) (hb : Below B w w') (hB : w.heap.size ≤ B) : OwnInts w' a zs := fun h0 => by
  obtain ⟨g, e, hg, hc⟩ := h h0
  exact ⟨g, e, Nat.lt_of_lt_of_le hg hb.size, fun j hj => (hb.cell (by show g < B; omega)).trans (hc j hj)⟩

theorem clone10_nil (w : World) : Calls Try.prog 10 #[.slice none 0 0] w fun e w' => e = .returned (.slice none 0 0) ∧ w' = w := by
  have hq := fun (wx : World) (a : Option Addr) (n c : Nat) => Lib.run_eql_slice_nil (P := Try.prog) wx 23 2 a n c 0 0 Try.underlying23
  go_enter Try.func10, Try.ntmps10
  go_wp2
  go_ret
  exact ⟨rfl, rfl⟩

set_option maxHeartbeats 800000 in
theorem clone10_row (ad : Addr) (cap : Nat) (zs : List Int) (w : World) (hn : zs.length ≤ 1048576)
    (hc : ∀ j, j < zs.length → ad.spot = none ∧ w.cell? ⟨ad.block, ad.off + j, none⟩ = some (.int .i64 (zs.getD j 0))) :
    Calls Try.prog 10 #[.slice (some ad) zs.length cap] w fun e w' => ∃ g, e = .returned (.slice (some ⟨g, 0, none⟩) zs.length zs.length) ∧ g < w'.heap.size ∧
      (∀ j, j < zs.length → w'.cell? ⟨g, j, none⟩ = some (.int .i64 (zs.getD j 0))) ∧ Below w.heap.size w w' := by
  obtain ⟨i0, hi, hz0, hz1, hz2⟩ := info_parts Try.info2
  have hq := fun (wx : World) (a : Option Addr) (n c : Nat) => Lib.run_eql_slice_nil (P := Try.prog) wx 23 2 a n c 0 0 Try.underlying23
  go_enter Try.func10, Try.ntmps10
  go_wp2_with (at_make; refine wpList_make_full _ rfl _ _ 23 rfl w.heap.size 2 i0 (.int .i64 0) 1 Try.underlying23 hi hz0 hz1 _ _ _ _ zs.length rfl rfl rfl rfl ?c1 ?c2 ?c3 ?_)
  case c1 => rw [hz2]; omega
  case c2 => unfold maxLen; omega
  case c3 => exact Nat.le_refl _
  intro w1 hown hgrow
  have hb1 : Below w.heap.size w w1 := (Below.refl _ _).grown hgrow (Nat.le_refl _) (fun k h => by cases h)
  have hsz1 := hb1.size
  clear hgrow hq
  go_wp2
  go_loopw [4] (fun i wr => ∃ (k : Nat) (xs : List Value), k ≤ zs.length ∧ i = .int .i64 k ∧ wr.ownsRow w.heap.size 2 1 (.slice (some ⟨w.heap.size, 0, none⟩) zs.length zs.length) zs.length xs ∧
      (∀ j, j < k → xs[j]? = some (.int .i64 (zs.getD j 0))) ∧ Below w.heap.size w wr)
    (fun i _ => zs.length - (intOf i).toNat)
  case atStart => exact ⟨0, _, Nat.zero_le _, rfl, hown, fun j hj => by omega, hb1⟩
  case round =>
    obtain ⟨k, xs, hk, rfl, hown, hxs, hnx⟩ := hrel
    by_cases hlt : k < zs.length
    · obtain ⟨b, off, spot⟩ := ad
      obtain ⟨hsp, hc0⟩ := hc k hlt
      simp only at hsp hc0
      subst hsp
      have hcx := cell_later hnx hc0
      obtain ⟨x, hx⟩ : ∃ x, x = zs.getD k 0 := ⟨_, rfl⟩
      rw [← hx] at hcx
      have HX : Hid (x = zs.getD k 0) := hx
      have hfr := hown.frozenAt k
      have hct := hown.cellAt k (by omega)
      have hlen := hown.1
      rw [List.getElem?_eq_getElem (by omega)] at hct
      have HO := hown.stored k (.int .i64 x)
      clear hx hc0 hc hown
      go_wp2
      go_roundw
      case rel =>
        refine ⟨k + 1, xs.set k (.int .i64 x), by omega, by go_num, HO.1, fun j hj => ?_, hnx.grown HO.2 hnx.size (fun k h => by simp at h; omega)⟩
        by_cases e : j = k
        · subst e; rw [List.getElem?_set_self (by omega), HX.out]
        · rw [List.getElem?_set_ne (by omega)]; exact hxs j (by omega)
      case measure => simp [intOf]; omega
    · have hke : k = zs.length := by omega
      subst hke
      go_wp2
      go_ret
      exact ⟨w.heap.size, rfl, by have := (hown.lt w.heap.size rfl).2; omega, fun j hj => by rw [hown.cellAt j (by omega)]; exact hxs j hj, hnx⟩

theorem clone10_any {w : World} {a : Option Addr} {len cap : Nat} {zs : List Int} (h : IsInts w a len cap zs) (hn : zs.length ≤ 1048576) :
    Calls Try.prog 10 #[.slice a len cap] w fun e w' => ∃ a' c', e = .returned (.slice a' zs.length c') ∧ OwnInts w' a' zs ∧ Below w.heap.size w w' := by
  obtain ⟨rfl, hm, hnil, hrow⟩ := h.row
  by_cases h0 : 0 < zs.length
  · obtain ⟨b, off, rfl, hc⟩ := hrow h0
    refine (clone10_row ⟨b, off, none⟩ cap zs w hn (fun j hj => ⟨rfl, hc j hj⟩)).mono fun e w' hh => ?_
    obtain ⟨g, he, hg, hcg, hb⟩ := hh
    exact ⟨_, _, he, fun _ => ⟨g, rfl, hg, hcg⟩, hb⟩
  · have e : zs = [] := List.eq_nil_of_length_eq_zero (by omega)
    subst e
    cases a with
    | none =>
      have := hnil rfl
      subst this
      exact (clone10_nil w).mono fun e w' hh => ⟨_, _, hh.1, fun h => absurd h h0, by rw [hh.2]; exact Below.refl _ _⟩
    | some ad =>
      refine (clone10_row ad cap [] w hn (fun j hj => by simp at hj)).mono fun e w' hh => ?_
      obtain ⟨g, he, _, _, hb⟩ := hh
      exact ⟨_, _, he, fun h => absurd h h0, hb⟩

end Go.Proofs.Qxb6600318a
