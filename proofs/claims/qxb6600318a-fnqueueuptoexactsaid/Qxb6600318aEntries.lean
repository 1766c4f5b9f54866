/-
  THE WALK OF zzEntries.
-/
import Derived.Test.Qxb6600318aQueue
namespace Go.Proofs.Qxb6600318a
open Go.RowKit

/-- An entry, in plain words. -/
structure Ent where
  k : ByteArray
  v : ByteArray
  r : Int

def Ent.nought : Ent := ⟨ByteArray.empty, ByteArray.empty, 0⟩

/-- The entries that the law lays out. -/
def entAt (ks vs : List ByteArray) (rs : List Int) (j : Nat) : Ent := ⟨ks.getD j ByteArray.empty, vs.getD j ByteArray.empty, rs.getD j 0⟩
def ents (ks vs : List ByteArray) (rs : List Int) : List Ent := (List.range rs.length).map (entAt ks vs rs)

theorem ents_len (ks vs : List ByteArray) (rs : List Int) : (ents ks vs rs).length = rs.length := by simp [ents]
theorem ents_get (ks vs : List ByteArray) (rs : List Int) (j : Nat) (h : j < rs.length) : (ents ks vs rs).getD j Ent.nought = entAt ks vs rs j := by
  simp [ents, List.getD, h]

/-- THE ENTRIES E LIE FROM BLOCK g's HEAD ON, three cells each. -/
def EntCells (w : World) (g : Nat) (E : List Ent) : Prop := ∀ j, j < E.length →
  w.cell? ⟨g, j * 3, none⟩ = some (.string (E.getD j Ent.nought).k) ∧ w.cell? ⟨g, j * 3 + 1, none⟩ = some (.string (E.getD j Ent.nought).v) ∧ w.cell? ⟨g, j * 3 + 2, none⟩ = some (.int .i64 (E.getD j Ent.nought).r)

theorem EntCells.below {w w' : World} {B g : Nat} {E : List Ent} (h : EntCells w g E) (hb : Below B w w') (hg : g < B) : EntCells w' g E := fun j hj =>
  ⟨(hb.cell (p := ⟨g, j * 3, none⟩) hg).trans (h j hj).1, (hb.cell (p := ⟨g, j * 3 + 1, none⟩) hg).trans (h j hj).2.1, (hb.cell (p := ⟨g, j * 3 + 2, none⟩) hg).trans (h j hj).2.2⟩

def EntRel (ks vs : List ByteArray) (rs : List Int) (w : World) (v8 : Value) (wr : World) : Prop :=
  ∃ (k : Nat) (xs : List Value), k ≤ rs.length ∧ v8 = .int .i64 k ∧ wr.ownsRow w.heap.size 32 3 (.slice (some ⟨w.heap.size, 0, none⟩) rs.length rs.length) rs.length xs ∧
    (∀ j, j < k → xs[j * 3]? = some (.string (entAt ks vs rs j).k) ∧ xs[j * 3 + 1]? = some (.string (entAt ks vs rs j).v) ∧ xs[j * 3 + 2]? = some (.int .i64 (entAt ks vs rs j).r)) ∧ Below w.heap.size w wr

set_option maxHeartbeats 1600000 in
set_option maxRecDepth 100000 in
theorem entries11_any {w : World} {a1 a2 a3 : Option Addr} {c1 c2 c3 : Nat} {ks vs : List ByteArray} {rs : List Int} (hk : OwnStrs w a1 ks) (hv : OwnStrs w a2 vs) (hr : OwnInts w a3 rs)
    (hn1 : ks.length ≤ 65536) (hn2 : vs.length ≤ 65536) (hn3 : rs.length ≤ 65536) :
    Calls Try.prog 11 #[.slice a1 ks.length c1, .slice a2 vs.length c2, .slice a3 rs.length c3] w fun e w' => ∃ g, e = .returned (.slice (some ⟨g, 0, none⟩) rs.length rs.length) ∧ g < w'.heap.size ∧
      EntCells w' g (ents ks vs rs) ∧ Below w.heap.size w w' := by
  obtain ⟨i0, hi, hz0, hz1, hz2⟩ := info_parts Try.info32
  have HK : Hid (OwnStrs w a1 ks) := hk
  have HV : Hid (OwnStrs w a2 vs) := hv
  have HR : Hid (OwnInts w a3 rs) := hr
  clear hk hv hr
  go_enter Try.func11, Try.ntmps11
  go_wp2_with (at_make; refine wpList_make_full _ rfl _ _ 28 rfl w.heap.size 32 i0 (.agg #[.string ByteArray.empty, .string ByteArray.empty, .int .i64 0]) 3 Try.underlying28 hi hz0 hz1 _ _ _ _ rs.length rfl rfl rfl rfl ?c1 ?c2 ?c3 ?_)
  case c1 => rw [hz2]; omega
  case c2 => unfold maxLen; omega
  case c3 => exact Nat.le_refl _
  intro w1 hown hgrow
  have hb1 : Below w.heap.size w w1 := (Below.refl _ _).grown hgrow (Nat.le_refl _) (fun k h => by cases h)
  clear hgrow
  go_wp2
  go_loopw [8] (fun v8 wr => EntRel ks vs rs w v8 wr) (fun i _ => rs.length - (intOf i).toNat)
  case atStart => exact ⟨0, _, Nat.zero_le _, rfl, hown, fun j hj => by omega, hb1⟩
  case round =>
    obtain ⟨k, xs, hk, rfl, hown, hxs, hnx⟩ := hrel
    have HXS : Hid (∀ j, j < k → xs[j * 3]? = some (.string (entAt ks vs rs j).k) ∧ xs[j * 3 + 1]? = some (.string (entAt ks vs rs j).v) ∧ xs[j * 3 + 2]? = some (.int .i64 (entAt ks vs rs j).r)) := hxs
    clear hxs
    by_cases hlt : k < rs.length
    · obtain ⟨g3, rfl, hg3, hc3⟩ := HR.out (by omega)
      have hcr : wr.cell? ⟨g3, k, none⟩ = some (.int .i64 (rs.getD k 0)) := (hnx.cell (by exact hg3)).trans (hc3 k hlt)
      obtain ⟨z, hz⟩ : ∃ z, z = rs.getD k 0 := ⟨_, rfl⟩
      rw [← hz] at hcr
      have HZ : Hid (z = rs.getD k 0) := hz
      obtain ⟨x, hx⟩ : ∃ x, x = ks.getD k ByteArray.empty := ⟨_, rfl⟩
      obtain ⟨y, hy⟩ : ∃ y, y = vs.getD k ByteArray.empty := ⟨_, rfl⟩
      have HX : Hid (x = ks.getD k ByteArray.empty) := hx
      have HY : Hid (y = vs.getD k ByteArray.empty) := hy
      clear hz hx hy hc3
      go_upto_if 23 with fail
      go_cut [9] (fun v9 wx => v9 = .string x ∧ wx = wr)
      case first =>
        by_cases h1 : k < ks.length
        · obtain ⟨g1, rfl, hg1, hc1⟩ := HK.out (by omega)
          have hcx : wr.cell? ⟨g1, k, none⟩ = some (.string x) := by rw [HX.out]; exact (hnx.cell (by exact hg1)).trans (hc1 k h1)
          clear hc1
          go_wp2
          go_meet
          exact ⟨rfl, rfl⟩
        · have hxe : x = ByteArray.empty := by rw [HX.out, List.getD, List.getElem?_eq_none (by omega)]; rfl
          go_wp2
          go_meet
          exact ⟨by rw [hxe]; rfl, rfl⟩
      case rest =>
      obtain ⟨rfl, rfl⟩ := hcut
      go_upto_if 31 with fail
      go_cut [10] (fun v10 wx => v10 = .string y ∧ wx = wc)
      case first =>
        by_cases h1 : k < vs.length
        · obtain ⟨g1, rfl, hg1, hc1⟩ := HV.out (by omega)
          have hcx : wc.cell? ⟨g1, k, none⟩ = some (.string y) := by rw [HY.out]; exact (hnx.cell (by exact hg1)).trans (hc1 k h1)
          clear hc1
          go_wp2
          go_meet
          exact ⟨rfl, rfl⟩
        · have hxe : y = ByteArray.empty := by rw [HY.out, List.getD, List.getElem?_eq_none (by omega)]; rfl
          go_wp2
          go_meet
          exact ⟨by rw [hxe]; rfl, rfl⟩
      case rest =>
      obtain ⟨rfl, rfl⟩ := hcut
      have hlen := hown.1
      have hf0 := hown.frozenAt (k * 3)
      have hf1 := hown.frozenAt (k * 3 + 1)
      have hf2 := hown.frozenAt (k * 3 + 2)
      have hq0 := hown.cellAt (k * 3) (by omega)
      have hq1 := hown.cellAt (k * 3 + 1) (by omega)
      have hq2 := hown.cellAt (k * 3 + 2) (by omega)
      rw [List.getElem?_eq_getElem (by omega)] at hq0 hq1 hq2
      have O1 := hown.stored (k * 3) (.string x)
      have O2 := O1.1.stored (k * 3 + 1) (.string y)
      have O3 := O2.1.stored (k * 3 + 2) (.int .i64 z)
      have HO3 : Hid (_) := O3.1
      have HB3 : Below w.heap.size w (((wc.setCell ⟨w.heap.size, k * 3, none⟩ (.string x)).setCell ⟨w.heap.size, k * 3 + 1, none⟩ (.string y)).setCell ⟨w.heap.size, k * 3 + 2, none⟩ (.int .i64 z)) :=
        ((hnx.setCell (p := ⟨w.heap.size, k * 3, none⟩) (Nat.le_refl _) _).setCell (p := ⟨w.heap.size, k * 3 + 1, none⟩) (Nat.le_refl _) _).setCell (p := ⟨w.heap.size, k * 3 + 2, none⟩) (Nat.le_refl _) _
      clear O1 O2 O3 hown hnx
      go_wp2
      go_roundw
      case rel =>
        refine ⟨k + 1, _, by omega, by go_num, HO3.out, fun j hj => ?_, HB3⟩
        by_cases e : j = k
        · subst e
          refine ⟨?_, ?_, ?_⟩
          · rw [List.getElem?_set_ne (by omega), List.getElem?_set_ne (by omega), List.getElem?_set_self (by omega), HX.out]; rfl
          · rw [List.getElem?_set_ne (by omega), List.getElem?_set_self (by simp; omega), HY.out]; rfl
          · rw [List.getElem?_set_self (by simp; omega), HZ.out]; rfl
        · obtain ⟨e1, e2, e3⟩ := HXS.out j (by omega)
          refine ⟨?_, ?_, ?_⟩
          · rw [List.getElem?_set_ne (by omega), List.getElem?_set_ne (by omega), List.getElem?_set_ne (by omega)]; exact e1
          · rw [List.getElem?_set_ne (by omega), List.getElem?_set_ne (by omega), List.getElem?_set_ne (by omega)]; exact e2
          · rw [List.getElem?_set_ne (by omega), List.getElem?_set_ne (by omega), List.getElem?_set_ne (by omega)]; exact e3
      case measure => simp [intOf]; omega
    · have hke : k = rs.length := by omega
      subst hke
      go_wp2
      go_ret
      refine ⟨w.heap.size, rfl, (hown.lt w.heap.size rfl).2, fun j hj => ?_, hnx⟩
      rw [ents_len] at hj
      obtain ⟨e1, e2, e3⟩ := HXS.out j hj
      rw [ents_get ks vs rs j hj, hown.cellAt (j * 3) (by omega), hown.cellAt (j * 3 + 1) (by omega), hown.cellAt (j * 3 + 2) (by omega)]
      exact ⟨e1, e2, e3⟩

end Go.Proofs.Qxb6600318a
