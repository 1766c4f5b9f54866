/-
  THE WALKS OF causalB1Same AND causalB1PositivePart.
-/
import Derived.Test.Qxb6000101aJoin
import Derived.Test.Qxb6000101aKeys
namespace Go.Proofs.Qxb6000101a
open Go.RowKit Go.Maps Go.WideMaps

/-- What the walk is told of the slice of the keys. -/
def KsIn (w : World) (a : Option Addr) (ks : List ByteArray) : Prop :=
  (∀ s ∈ ks, s.size ≤ maxLen) ∧ (0 < ks.length → ∃ g, a = some ⟨g, 0, none⟩ ∧ ∀ j, j < ks.length → w.cell? ⟨g, j, none⟩ = some (.string (ks.getD j ByteArray.empty)))

theorem KsIn.later {w w' : World} {a : Option Addr} {ks : List ByteArray} (h : KsIn w a ks) (hb : Below w.heap.size w w') : KsIn w' a ks :=
  ⟨h.1, fun h0 => by obtain ⟨g, e, hc⟩ := h.2 h0; exact ⟨g, e, fun j hj => cell_later hb (hc j hj)⟩⟩

theorem ks_open {w : World} {base : Nat} {v : Value} {ks : List ByteArray} (h : w.ownsRow base 9 1 v ks.length (cellsS ks)) (hs : ∀ s ∈ ks, s.size ≤ maxLen) : ∃ a c, v = .slice a ks.length c ∧ KsIn w a ks := by
  rcases h.2 with ⟨rfl, e⟩ | ⟨gg, cap, cur, rfl, _, hg, _⟩
  · refine ⟨none, 0, by rw [e], hs, fun h0 => by omega⟩
  · refine ⟨_, cap, rfl, hs, fun _ => ⟨gg, rfl, fun j hj => ?_⟩⟩
    rw [h.cellAt j (by omega)]
    simp [cellsS, List.getD, hj]

/-- How many of the first k keys D holds. -/
noncomputable def cntD (D : DataW Unit) (ks : List ByteArray) (k : Nat) : Nat := ((ks.take k).filter (inD D)).length
theorem cntD_zero (D : DataW Unit) (ks : List ByteArray) : cntD D ks 0 = 0 := by simp [cntD]
theorem cntD_le (D : DataW Unit) (ks : List ByteArray) (k : Nat) : cntD D ks k ≤ k := by
  unfold cntD
  have h1 := List.length_filter_le (inD D) (ks.take k)
  have h2 := List.length_take_le k ks
  omega
theorem cntD_succ (D : DataW Unit) (ks : List ByteArray) (k : Nat) (hk : k < ks.length) : cntD D ks (k + 1) = cntD D ks k + if has D (keyL (ks.getD k ByteArray.empty)) then 1 else 0 := by
  unfold cntD
  have e1 : ks.take (k + 1) = ks.take k ++ [ks.getD k ByteArray.empty] := by
    rw [List.take_add_one, List.getElem?_eq_getElem hk]; simp [List.getD, hk]
  rw [e1, List.filter_append, List.length_append]
  congr 1
  show (List.filter (inD D) [ks.getD k ByteArray.empty]).length = _
  have e2 : inD D (ks.getD k ByteArray.empty) = has D (keyL (ks.getD k ByteArray.empty)) := rfl
  rw [List.filter_cons, e2]
  split <;> rfl
theorem cntD_all (D : DataW Unit) (ks : List ByteArray) : cntD D ks ks.length = (ks.filter (inD D)).length := by unfold cntD; rw [List.take_length]

def SRel (D : DataW Unit) (ks : List ByteArray) (v7 v8 : Value) : Prop := ∃ k : Nat, k ≤ ks.length ∧ v8 = .int .i64 k ∧ v7 = .int .i64 (cntD D ks k : Nat)

set_option maxHeartbeats 1600000 in
set_option maxRecDepth 100000 in
theorem same19_any {w : World} {x y : Value} {D : DataW Unit} {n m : Nat} {a : Option Addr} {c : Nat} {ks : List ByteArray} (hx : IsVer w x D n) (hy : IsVer w y D m) (hk : KsIn w a ks) (hl : ks.length ≤ 131072)
    (hcnt : Maps.size D = (ks.filter (inD D)).length) : Calls Try.prog 19 #[x, y, .slice a ks.length c] w fun e w' => e = .returned (.bool true) ∧ w' = w := by
  obtain ⟨p, rfl⟩ := hx.isMap
  obtain ⟨q, rfl⟩ := hy.isMap
  have hl1 := hx.len
  have hl2 := hy.len
  have HX : Hid (IsVer w (.map p) D n) := hx
  have HY : Hid (IsVer w (.map q) D m) := hy
  have HK : Hid (KsIn w a ks) := hk
  have HC : Hid (cntD D ks ks.length = Maps.size D) := by
    show cntD D ks ks.length = Maps.size D
    rw [cntD_all, hcnt]
  obtain ⟨sz, hsz⟩ : ∃ sz, sz = Maps.size D := ⟨_, rfl⟩
  rw [← hsz] at hl1 hl2
  have HSZ : Hid (sz = Maps.size D) := hsz
  clear hx hy hk hcnt hsz
  go_enter Try.func19, Try.ntmps19
  go_wp2
  go_loop [7, 8] (fun v7 v8 => SRel D ks v7 v8) (fun _ i => ks.length - (intOf i).toNat)
  case atStart => exact ⟨0, Nat.zero_le _, rfl, by rw [cntD_zero]; rfl⟩
  case round =>
    obtain ⟨k, hkk, rfl, rfl⟩ := hrel
    have hcl := cntD_le D ks k
    by_cases hlt : k < ks.length
    · obtain ⟨g, rfl, hc⟩ := HK.out.2 (by omega)
      have hcx := hc k hlt
      have hxs : (ks.getD k ByteArray.empty).size ≤ maxLen := by
        rw [List.getD, List.getElem?_eq_getElem hlt]; exact HK.out.1 _ (List.getElem_mem hlt)
      have HS : Hid (cntD D ks (k + 1) = cntD D ks k + if has D (keyL (ks.getD k ByteArray.empty)) then 1 else 0) := cntD_succ D ks k hlt
      have hk1 := HX.out.look_ok _ hxs
      have hk2 := HY.out.look_ok _ hxs
      obtain ⟨s, hs⟩ : ∃ s, s = ks.getD k ByteArray.empty := ⟨_, rfl⟩
      rw [← hs] at hcx hxs HS hk1 hk2
      obtain ⟨z, hz⟩ : ∃ z, z = val D (keyL s) := ⟨_, rfl⟩
      rw [← hz] at hk1 hk2
      clear hs hz hc
      cases hh : has D (keyL s) with
      | true =>
        rw [hh] at hk1 hk2
        have HS1 : Hid (cntD D ks (k + 1) = cntD D ks k + 1) := by
          show cntD D ks (k + 1) = _
          rw [HS.out, hh]; rfl
        clear HS hh
        go_wp2
        go_round
        case rel => exact ⟨k + 1, by omega, by go_num, by rw [HS1.out]; go_num⟩
        case measure => simp [intOf]; omega
      | false =>
        rw [hh] at hk1 hk2
        have HS1 : Hid (cntD D ks (k + 1) = cntD D ks k) := by
          show cntD D ks (k + 1) = _
          rw [HS.out, hh]; rfl
        clear HS hh
        go_wp2
        go_round
        case rel => exact ⟨k + 1, by omega, by go_num, by rw [HS1.out]⟩
        case measure => simp [intOf]; omega
    · have hke : k = ks.length := by omega
      have e0 : cntD D ks k = sz := by rw [hke, HC.out, HSZ.out]
      rw [e0]
      clear e0 hcl
      go_wp2
      go_ret
      exact ⟨by simp, rfl⟩

def PRel (X : DataW Unit) (ks : List ByteArray) (v7 v8 : Value) : Prop := ∃ k : Nat, k ≤ ks.length ∧ v8 = .int .i64 k ∧ v7 = .int .i64 (cntD X ks k : Nat)

set_option maxHeartbeats 1600000 in
set_option maxRecDepth 100000 in
theorem pos25_any {w : World} {x y : Value} {X A : DataW Unit} {n m : Nat} {a : Option Addr} {c : Nat} {ks : List ByteArray} (hx : IsVer w x X n) (hy : IsVer w y A m) (hk : KsIn w a ks) (hl : ks.length ≤ 131072)
    (hX : ∀ k, has X k = decide (0 < val A k) ∧ val X k = val A k) (hcnt : Maps.size X = (ks.filter (inD X)).length) :
    Calls Try.prog 25 #[x, y, .slice a ks.length c] w fun e w' => e = .returned (.bool true) ∧ w' = w := by
  obtain ⟨p, rfl⟩ := hx.isMap
  obtain ⟨q, rfl⟩ := hy.isMap
  have hl1 := hx.len
  have HX : Hid (IsVer w (.map p) X n) := hx
  have HY : Hid (IsVer w (.map q) A m) := hy
  have HK : Hid (KsIn w a ks) := hk
  have HXA : Hid (∀ k, has X k = decide (0 < val A k) ∧ val X k = val A k) := hX
  have HC : Hid (cntD X ks ks.length = Maps.size X) := by
    show cntD X ks ks.length = Maps.size X
    rw [cntD_all, hcnt]
  obtain ⟨sz, hsz⟩ : ∃ sz, sz = Maps.size X := ⟨_, rfl⟩
  rw [← hsz] at hl1
  have HSZ : Hid (sz = Maps.size X) := hsz
  clear hx hy hk hcnt hsz hX
  go_enter Try.func25, Try.ntmps25
  go_wp2
  go_loop [7, 8] (fun v7 v8 => PRel X ks v7 v8) (fun _ i => ks.length - (intOf i).toNat)
  case atStart => exact ⟨0, Nat.zero_le _, rfl, by rw [cntD_zero]; rfl⟩
  case round =>
    obtain ⟨k, hkk, rfl, rfl⟩ := hrel
    have hcl := cntD_le X ks k
    by_cases hlt : k < ks.length
    · obtain ⟨g, rfl, hc⟩ := HK.out.2 (by omega)
      have hcx := hc k hlt
      have hxs : (ks.getD k ByteArray.empty).size ≤ maxLen := by
        rw [List.getD, List.getElem?_eq_getElem hlt]; exact HK.out.1 _ (List.getElem_mem hlt)
      have HS : Hid (cntD X ks (k + 1) = cntD X ks k + if has X (keyL (ks.getD k ByteArray.empty)) then 1 else 0) := cntD_succ X ks k hlt
      have hk1 := HX.out.look_ok _ hxs
      have hk2 := HY.out.look _ hxs
      obtain ⟨e1, e2⟩ := HXA.out (keyL (ks.getD k ByteArray.empty))
      obtain ⟨s, hs⟩ : ∃ s, s = ks.getD k ByteArray.empty := ⟨_, rfl⟩
      rw [← hs] at hcx hxs HS hk1 hk2 e1 e2
      rw [e2] at hk1
      obtain ⟨z, hz⟩ : ∃ z, z = val A (keyL s) := ⟨_, rfl⟩
      rw [← hz] at hk1 hk2 e1
      clear hs hz hc e2
      by_cases hp : 0 < z
      · rw [decide_eq_true hp] at e1
        rw [e1] at hk1
        have HS1 : Hid (cntD X ks (k + 1) = cntD X ks k + 1) := by
          show cntD X ks (k + 1) = _
          rw [HS.out, e1]; rfl
        clear HS e1
        go_wp2
        go_round
        case rel => exact ⟨k + 1, by omega, by go_num, by rw [HS1.out]; go_num⟩
        case measure => simp [intOf]; omega
      · rw [decide_eq_false hp] at e1
        rw [e1] at hk1
        have HS1 : Hid (cntD X ks (k + 1) = cntD X ks k) := by
          show cntD X ks (k + 1) = _
          rw [HS.out, e1]; rfl
        clear HS e1
        go_wp2
        go_round
        case rel => exact ⟨k + 1, by omega, by go_num, by rw [HS1.out]⟩
        case measure => simp [intOf]; omega
    · have hke : k = ks.length := by omega
      have e0 : cntD X ks k = sz := by rw [hke, HC.out, HSZ.out]
      rw [e0]
      clear e0 hcl
      go_wp2
      go_ret
      exact ⟨by simp, rfl⟩

end Go.Proofs.Qxb6000101a
