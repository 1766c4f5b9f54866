/-
  THE WALK OF splitUnescaped: the parts, each closed by the separator, and the last part, give the text back.
-/
import Derived.Test.Qxb6600267aProg
import Derived.WalkKit
import Derived.WalkSpells
import Derived.WalkLawsBesides
import Derived.Lib.AppendStr
import Derived.Laws.IdiomStrings
import Derived.Laws.BytesArg
namespace Go.Proofs.Qxb6600267a
open Go.RowKit

theorem Try.info9 : (Try.prog.info? 9).map (fun i => (i.zero, i.size, i.bytes)) = some (some (.string ByteArray.empty), 1, 16) := by kernel_rfl
theorem Try.info5 : (Try.prog.info? 5).map (fun i => (i.zero, i.size, i.bytes)) = some (some (.int .u8 0), 1, 1) := by kernel_rfl

/-- Each part with the separator behind it. -/
def closed (c : UInt8) (ps : List ByteArray) : List UInt8 := ps.flatMap fun p => p.data.toList ++ [c]

theorem closed_snoc (c : UInt8) (ps : List ByteArray) (p : ByteArray) : closed c (ps ++ [p]) = closed c ps ++ p.data.toList ++ [c] := by
  simp [closed]

theorem closed_len (c : UInt8) (ps : List ByteArray) : ps.length ≤ (closed c ps).length := by
  induction ps with
  | nil => simp [closed]
  | cons p r ih =>
    have : closed c (p :: r) = p.data.toList ++ [c] ++ closed c r := by simp [closed]
    rw [this]; simp; omega

theorem extract_list (s : ByteArray) (a b : Nat) : (s.extract a b).data.toList = (s.data.toList.drop a).take (b - a) := by
  simp [ByteArray.data_extract]

theorem take_cut (l : List UInt8) (a b : Nat) (h : a ≤ b) (c : UInt8) (hb : l[b]? = some c) : l.take a ++ (l.drop a).take (b - a) ++ [c] = l.take (b + 1) := by
  have e : l.take b = l.take a ++ (l.drop a).take (b - a) := by
    have := List.take_add (l := l) (i := a) (j := b - a)
    rw [show a + (b - a) = b by omega] at this
    exact this
  rw [← e, List.take_add_one, hb]; rfl

theorem get_data (s : ByteArray) (k : Nat) (h : k < s.size) : s.data.toList[k]? = some s[k] := by
  rw [List.getElem?_eq_getElem (by simpa using h)]; rfl

set_option maxHeartbeats 800000 in
set_option maxRecDepth 100000 in
theorem split_any (s : ByteArray) (c : UInt8) (w : World) (hs : s.size ≤ 1048576) :
    Calls Try.prog 25 #[.string s, .int .u8 c.toNat] w fun e w' => ∃ v ps q, e = .returned v ∧ w'.ownsRow w.heap.size 9 1 v (ps.length + 1) ((ps ++ [q]).map Value.string) ∧
      closed c ps ++ q.data.toList = s.data.toList ∧ Below w.heap.size w w' := by
  obtain ⟨i0, hi, hz0, hz1, hz2⟩ := info_parts Try.info9
  go_enter Try.func25, Try.ntmps25
  go_wp2
  go_loopw [5, 6, 7, 8] (fun v st esc i wr => ∃ (k t : Nat) (ps : List ByteArray) (b : Bool), k ≤ s.size ∧ t ≤ k ∧ i = .int .i64 k ∧ st = .int .i64 t ∧ esc = .bool b ∧ wr.ownsRow w.heap.size 9 1 v ps.length (ps.map Value.string) ∧
      closed c ps = s.data.toList.take t ∧ ps.length ≤ t ∧ Below w.heap.size w wr)
    (fun _ _ _ i _ => s.size - (intOf i).toNat)
  case atStart => exact ⟨0, 0, [], false, Nat.zero_le _, Nat.le_refl _, rfl, rfl, rfl, World.ownsRow_nil _ _ _ _, rfl, Nat.le_refl _, Below.refl _ _⟩
  case round =>
    obtain ⟨k, t, ps, b, hk, ht, rfl, rfl, rfl, hown, hcl, hpl, hnx⟩ := hrel
    have hsz := hnx.size
    by_cases hlt : k < s.size
    · go_wp2_with (at_builtin; refine wpList_append_own _ rfl _ _ 22 rfl w.heap.size 9 i0 (.string ByteArray.empty) 1 16 Try.underlying22 hi hz0 hz1 hz2 rfl (by decide) _ _ _ rfl (hown.alloc _) ⟨wr.heap.size, 0, none⟩ 1 1 [.string (s.extract t k)] rfl rfl (cell_one_new _ _ _) ?c1 ?c2 ?c3 ?c4 ?_)
      case c1 => intro u hu; simp at hu; subst hu; rfl
      case c2 => unfold maxLen; omega
      case c3 => omega
      case c4 => simp; omega
      · go_roundw
        case rel => exact ⟨k + 1, t, ps, false, by omega, by omega, by go_num, rfl, rfl, hown, hcl, hpl, hnx⟩
        case measure => simp [intOf]; omega
      · go_roundw
        case rel => exact ⟨k + 1, t, ps, true, by omega, by omega, by go_num, rfl, rfl, hown, hcl, hpl, hnx⟩
        case measure => simp [intOf]; omega
      · intro v' w1 hown' hgrow _
        have hc : ((s[k].toNat : Int) == (c.toNat : Int)) = true := by assumption
        have HC : Hid (s[k] = c) := by
          have h1 : (s[k].toNat : Int) = (c.toNat : Int) := by simpa using hc
          have : s[k].toNat = c.toNat := by omega
          exact UInt8.toNat_inj.1 this
        have HB : Below w.heap.size w w1 := (hnx.alloc (by omega) _).grown hgrow (by simp; omega) (fun g hg => (hown.lt g hg).1)
        have HO : w1.ownsRow w.heap.size 9 1 v' (ps ++ [s.extract t k]).length ((ps ++ [s.extract t k]).map Value.string) := by simpa using hown'
        have HT : Hid (closed c (ps ++ [s.extract t k]) = s.data.toList.take (k + 1)) := by
          show closed c (ps ++ [s.extract t k]) = s.data.toList.take (k + 1)
          rw [closed_snoc, hcl, extract_list]
          exact take_cut _ _ _ ht _ (by rw [get_data s k hlt, HC.out])
        clear hown' hgrow hown hcl hnx
        go_wp2
        go_roundw
        case rel => exact ⟨k + 1, k + 1, ps ++ [s.extract t k], false, by omega, by omega, by go_num, by go_num, by simp [*], HO, HT.out, by simp; omega, HB⟩
        case measure => simp [intOf]; omega
      · go_roundw
        case rel => exact ⟨k + 1, t, ps, b, by omega, by omega, by go_num, rfl, rfl, hown, hcl, hpl, hnx⟩
        case measure => simp [intOf]; omega
    · go_wp2_with (at_builtin; refine wpList_append_own _ rfl _ _ 22 rfl w.heap.size 9 i0 (.string ByteArray.empty) 1 16 Try.underlying22 hi hz0 hz1 hz2 rfl (by decide) _ _ _ rfl (hown.alloc _) ⟨wr.heap.size, 0, none⟩ 1 1 [.string (s.extract t s.size)] rfl rfl (cell_one_new _ _ _) ?c1 ?c2 ?c3 ?c4 ?_)
      case c1 => intro u hu; simp at hu; subst hu; rfl
      case c2 => unfold maxLen; omega
      case c3 => omega
      case c4 => simp; omega
      intro v' w1 hown' hgrow _
      have HB : Below w.heap.size w w1 := (hnx.alloc (by omega) _).grown hgrow (by simp; omega) (fun g hg => (hown.lt g hg).1)
      have HO : w1.ownsRow w.heap.size 9 1 v' (ps.length + 1) ((ps ++ [s.extract t s.size]).map Value.string) := by simpa using hown'
      have HT : Hid (closed c ps ++ (s.extract t s.size).data.toList = s.data.toList) := by
        show closed c ps ++ (s.extract t s.size).data.toList = s.data.toList
        rw [hcl, extract_list, List.take_of_length_le (i := s.size - t) (by simp)]
        exact List.take_append_drop _ _
      clear hown' hgrow hown hcl hnx
      go_wp2
      go_ret
      exact ⟨v', ps, s.extract t s.size, rfl, HO, HT.out, HB⟩

theorem getD_at {α : Type} (l : List α) (d : α) {j : Nat} (h : j < l.length) : l.getD j d = l[j] := by simp [List.getD, h]

/-- A slice of some elements that is owned leads to a row. -/
theorem owned_at {w : World} {base : Nat} {e : TypeId} {v : Value} {n : Nat} {xs : List Value} (h : w.ownsRow base e 1 v (n + 1) xs) :
    ∃ g cap, v = .slice (some ⟨g, 0, none⟩) (n + 1) cap ∧ base ≤ g ∧ g < w.heap.size ∧ ∀ j, j < n + 1 → w.cell? ⟨g, j, none⟩ = xs[j]? := by
  rcases h.2 with ⟨_, h0⟩ | ⟨g, cap, cur, rfl, hb, hg, _⟩
  · omega
  · exact ⟨g, cap, rfl, hb, (Array.getElem?_eq_some_iff.1 hg).1, fun j hj => h.cellAt j (by omega)⟩

theorem zzsplit_any (s : ByteArray) (c : UInt8) (w : World) (hs : s.size ≤ 1048576) :
    Calls Try.prog 19 #[.string s, .int .u8 c.toNat] w fun e w' => ∃ g cap ps q, e = .returned (.slice (some ⟨g, 0, none⟩) (ps.length + 1) cap) ∧ g < w'.heap.size ∧
      (∀ j, j < ps.length + 1 → w'.cell? ⟨g, j, none⟩ = some (.string ((ps ++ [q]).getD j ByteArray.empty))) ∧
      closed c ps ++ q.data.toList = s.data.toList ∧ Below w.heap.size w w' := by
  go_enter Try.func19, Try.ntmps19
  go_wp2_with (go_at_call 25; refine (split_any _ _ _ hs).mono ?_; rintro e w' ⟨v, ps, q, rfl, h1, h2, h3⟩)
  go_ret
  obtain ⟨g, cap, hv, _, hg, hc⟩ := owned_at h1
  refine ⟨g, cap, ps, q, by rw [hv]; rfl, hg, fun j hj => ?_, h2, h3⟩
  rw [hc j hj]
  have hj' : j < (ps ++ [q]).length := by simpa using hj
  rw [List.getElem?_map, List.getElem?_eq_getElem hj', getD_at _ _ hj']
  rfl

/-- What the law has joined behind k parts. -/
def joined (c : UInt8) (L : List ByteArray) : Nat → List UInt8
  | 0 => []
  | k + 1 => closed c (L.take k) ++ (L.getD k ByteArray.empty).data.toList

theorem joined_sep (c : UInt8) (L : List ByteArray) (k : Nat) (h : k < L.length) : joined c L (k + 1) ++ [c] = closed c (L.take (k + 1)) := by
  rw [List.take_add_one, List.getElem?_eq_getElem h]
  simp only [Option.toList, closed_snoc, joined]
  rw [getD_at _ _ h]

theorem joined_next (c : UInt8) (L : List ByteArray) (k : Nat) (h : k ≤ L.length) (hp : 0 < k) : joined c L k ++ [c] ++ (L.getD k ByteArray.empty).data.toList = joined c L (k + 1) := by
  obtain ⟨m, rfl⟩ : ∃ m, k = m + 1 := ⟨k - 1, by omega⟩
  rw [joined_sep c L m (by omega)]
  rfl

theorem joined_last (c : UInt8) (ps : List ByteArray) (q : ByteArray) : joined c (ps ++ [q]) (ps.length + 1) = closed c ps ++ q.data.toList := by
  simp [joined, List.getD]

theorem closed_append (c : UInt8) (a b : List ByteArray) : closed c (a ++ b) = closed c a ++ closed c b := by simp [closed]

theorem joined_len (c : UInt8) (ps : List ByteArray) (q : ByteArray) (k : Nat) (h : k ≤ ps.length) : (joined c (ps ++ [q]) (k + 1)).length ≤ (closed c ps ++ q.data.toList).length := by
  by_cases e : k = ps.length
  · subst e; rw [joined_last]; exact Nat.le_refl _
  · have h1 := joined_sep c (ps ++ [q]) k (by simp; omega)
    have h2 : (ps ++ [q]).take (k + 1) = ps.take (k + 1) := by rw [List.take_append_of_le_length (by omega)]
    have h3 := closed_append c (ps.take (k + 1)) (ps.drop (k + 1))
    rw [List.take_append_drop] at h3
    have h4 := congrArg List.length h1
    rw [h2] at h4
    have h5 := congrArg List.length h3
    simp at h4 h5 ⊢
    omega

/-- 'string(b)', b owned. -/
theorem convert_owned {w : World} {base : Nat} {v : Value} {n : Nat} {l : List UInt8} (h : w.ownsRow base 5 1 v n (l.map fun b => Value.int .u8 b.toNat)) :
    (convert 36 9 v).run Try.prog w = .ok (.string ⟨l.toArray⟩) w := by
  have hn : l.length = n := by simpa using h.1
  subst hn
  rcases h.2 with ⟨rfl, h0⟩ | ⟨g, cap, cur, rfl, hb, hg, _⟩
  · have hl : l = [] := List.eq_nil_of_length_eq_zero h0
    subst hl
    exact run_convert_bytes_nil w 36 5 Try.underlying36 Try.underlying5 0 0 9 Try.underlying9
  · refine run_convert_bytes_back w 36 9 5 ⟨g, 0, none⟩ cap l Try.underlying36 Try.underlying5 Try.underlying9 fun j hj => ?_
    have hc := h.cellAt j (by simpa using hj)
    rw [Addr.add_lit, Nat.zero_add, hc, List.getElem?_map, List.getElem?_eq_getElem hj]
    rfl

end Go.Proofs.Qxb6600267a
