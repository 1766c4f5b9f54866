/-
  THE WALKS OF (queue).upTo, ZZQueueUpTo, zzSameEntry.
-/
import Derived.Test.Qxb6600318aEntries
namespace Go.Proofs.Qxb6600318a
open Go.RowKit

/-- Is the entry at or before the revision? -/
def pB (R : Int) (e : Ent) : Bool := decide (e.r ≤ R)

def cellsE (l : List Ent) : List Value := l.flatMap fun e => [.string e.k, .string e.v, .int .i64 e.r]

theorem cellsE_len (l : List Ent) : (cellsE l).length = l.length * 3 := by
  induction l with
  | nil => rfl
  | cons e l ih => simp only [cellsE, List.flatMap_cons, List.length_append, List.length_cons, List.length_nil] at ih ⊢; omega

theorem cellsE_snoc (l : List Ent) (e : Ent) : cellsE (l ++ [e]) = cellsE l ++ [.string e.k, .string e.v, .int .i64 e.r] := by simp [cellsE]

theorem cellsE_at (l : List Ent) : ∀ j, j < l.length → (cellsE l)[j * 3]? = some (.string (l.getD j Ent.nought).k) ∧ (cellsE l)[j * 3 + 1]? = some (.string (l.getD j Ent.nought).v) ∧ (cellsE l)[j * 3 + 2]? = some (.int .i64 (l.getD j Ent.nought).r) := by
  induction l with
  | nil => intro j hj; simp at hj
  | cons e l ih =>
    intro j hj
    have hc : cellsE (e :: l) = .string e.k :: .string e.v :: .int .i64 e.r :: cellsE l := rfl
    rw [hc]
    cases j with
    | zero => simp
    | succ j =>
      have h1 : (j + 1) * 3 = j * 3 + 3 := by omega
      rw [h1]
      have := ih j (by simpa using hj)
      simpa using this

theorem filt_snoc (E : List Ent) (R : Int) (k : Nat) (hk : k < E.length) : (E.take (k + 1)).filter (pB R) = (E.take k).filter (pB R) ++ if pB R (E.getD k Ent.nought) then [E.getD k Ent.nought] else [] := by
  have e1 : E.take (k + 1) = E.take k ++ [E.getD k Ent.nought] := by
    rw [List.take_add_one, List.getElem?_eq_getElem hk]; simp [List.getD, hk]
  rw [e1, List.filter_append]
  congr 1
  split <;> simp_all

theorem filt_len (E : List Ent) (R : Int) (k : Nat) : ((E.take k).filter (pB R)).length ≤ k := by
  have := List.length_filter_le (pB R) (E.take k)
  have h2 := List.length_take_le k E
  omega

theorem zero32 (w : World) : (zeroValue 32).run Try.prog w = .ok (.agg #[.string ByteArray.empty, .string ByteArray.empty, .int .i64 0]) w := by kernel_rfl

theorem cell_three_new (w : World) (a b c : Value) (t : TypeId) : ∀ j u, [a, b, c][j]? = some u → (w.alloc (.cells #[a, b, c] t)).cell? ((⟨w.heap.size, 0, none⟩ : Addr).add j) = some u := by
  intro j u hj
  match j, hj with
  | 0, hj => simp at hj; subst hj; simp [Addr.add]
  | 1, hj => simp at hj; subst hj; simp [Addr.add]
  | 2, hj => simp at hj; subst hj; simp [Addr.add]
  | j + 3, hj => simp at hj

def UpRel (E : List Ent) (R : Int) (w : World) (v5 v11 : Value) (wr : World) : Prop :=
  ∃ k : Nat, k ≤ E.length ∧ v11 = .int .i64 k ∧ wr.ownsRow w.heap.size 32 3 v5 ((E.take k).filter (pB R)).length (cellsE ((E.take k).filter (pB R))) ∧ ((E.take k).filter (pB R) = [] → v5 = .slice none 0 0) ∧ Below w.heap.size w wr ∧ w.heap.size < wr.heap.size

set_option maxHeartbeats 1600000 in
set_option maxRecDepth 100000 in
theorem upTo18_any (g c : Nat) (E : List Ent) (q R : Int) (w : World) (hn : E.length ≤ 65536) (hg : g < w.heap.size) (hc : EntCells w g E) :
    Calls Try.prog 18 #[.agg #[.slice (some ⟨g, 0, none⟩) E.length c, .int .i64 q], .int .i64 R] w fun e w' => ∃ v, e = .returned v ∧ w'.ownsRow w.heap.size 32 3 v (E.filter (pB R)).length (cellsE (E.filter (pB R))) ∧
      (E.filter (pB R) = [] → v = .slice none 0 0) ∧ Below w.heap.size w w' := by
  obtain ⟨i0, hi, hz0, hz1, hz2⟩ := info_parts Try.info32
  have hzr := zero32
  have HC : Hid (EntCells w g E) := hc
  clear hc
  go_enter Try.func18, Try.ntmps18
  go_wp2
  go_loopw [5, 11] (fun v5 v11 wr => UpRel E R w v5 v11 wr) (fun _ i _ => E.length - (intOf i).toNat)
  case atStart => exact ⟨0, Nat.zero_le _, rfl, World.ownsRow_nil _ _ _ _, fun _ => rfl, (Below.refl _ _).alloc (Nat.le_refl _) _, by simp⟩
  case round =>
    obtain ⟨k, hk, rfl, hown, hnil, hnx, hszr⟩ := hrel
    have HNIL : Hid ((E.take k).filter (pB R) = [] → u5 = .slice none 0 0) := hnil
    have hfl := filt_len E R k
    obtain ⟨F, hF⟩ : ∃ F, F = (E.take k).filter (pB R) := ⟨_, rfl⟩
    rw [← hF] at hown hfl
    have HF : Hid (F = (E.take k).filter (pB R)) := hF
    clear hnil hF
    by_cases hlt : k < E.length
    · obtain ⟨hc0, hc1, hc2⟩ := HC.out.below hnx hg k hlt
      have hsn := filt_snoc E R k hlt
      obtain ⟨e, he⟩ : ∃ e, e = E.getD k Ent.nought := ⟨_, rfl⟩
      rw [← he] at hc0 hc1 hc2 hsn
      obtain ⟨x, y, z⟩ := e
      simp only at hc0 hc1 hc2
      rw [← HF.out] at hsn
      by_cases hz : z ≤ R
      · have hp : pB R ⟨x, y, z⟩ = true := decide_eq_true hz
        rw [hp, if_pos rfl] at hsn
        have HSN : Hid ((E.take (k + 1)).filter (pB R) = F ++ [⟨x, y, z⟩]) := hsn
        clear hsn he hp
        go_wp2_with (at_builtin; refine wpList_append_own _ rfl _ _ 28 rfl w.heap.size 32 i0 (.agg #[.string ByteArray.empty, .string ByteArray.empty, .int .i64 0]) 3 40 Try.underlying28 hi hz0 hz1 hz2 rfl (by decide) _ _ _ rfl ((hown.alloc _).alloc _) ⟨wr.heap.size + 1, 0, none⟩ 1 1 [.string x, .string y, .int .i64 z] rfl rfl ?c0 ?c1 ?c2 ?c3 ?c4 ?_)
        case c0 =>
          have h3 := cell_three_new (wr.alloc (Obj.cells #[Value.string x, Value.string y, Value.int IntKind.i64 z] 32)) (.string x) (.string y) (.int .i64 z) 32
          rw [World.size_alloc] at h3
          exact h3
        case c1 =>
          intro u hu
          simp only [List.mem_cons, List.not_mem_nil, or_false] at hu
          rcases hu with rfl | rfl | rfl <;> rfl
        case c2 => unfold maxLen; omega
        case c3 => omega
        case c4 => simp; omega
        intro v' w1 hown' hgrow hnn
        have hsz2 := hgrow.size
        simp only [World.size_alloc] at hsz2
        have HB : Below w.heap.size w w1 := ((hnx.alloc (by omega) _).alloc (by simp; omega) _).grown hgrow (by simp; omega) (fun g hg => (hown.lt g hg).1)
        have HO : w1.ownsRow w.heap.size 32 3 v' ((E.take (k + 1)).filter (pB R)).length (cellsE ((E.take (k + 1)).filter (pB R))) := by
          rw [HSN.out, cellsE_snoc]; simpa using hown'
        have HN : Hid ((E.take (k + 1)).filter (pB R) = [] → v' = .slice none 0 0) := fun h => by rw [HSN.out] at h; simp at h
        clear hown' hgrow hown hnx hnn
        go_wp2
        go_roundw
        case rel => first | exact ⟨k + 1, by omega, by go_num, HO, HN.out, HB, by omega⟩ | ((repeat apply Exists.intro); refine ⟨?_, rfl⟩; exact ⟨k + 1, by omega, by go_num, HO, HN.out, HB, by omega⟩)
        case measure => simp [intOf]; omega
      · have hp : pB R ⟨x, y, z⟩ = false := decide_eq_false hz
        rw [hp, if_neg (by simp), List.append_nil] at hsn
        have HSN : Hid ((E.take (k + 1)).filter (pB R) = F) := hsn
        have HB : Below w.heap.size w (wr.alloc (.cells #[.string x, .string y, .int .i64 z] 32)) := hnx.alloc (by omega) _
        have HO := hown.alloc (.cells #[.string x, .string y, .int .i64 z] 32)
        clear hsn he hp hown hnx
        go_wp2
        go_roundw
        case rel =>
          have HO' : (wr.alloc (.cells #[.string x, .string y, .int .i64 z] 32)).ownsRow w.heap.size 32 3 u5 ((E.take (k + 1)).filter (pB R)).length (cellsE ((E.take (k + 1)).filter (pB R))) := by rw [HSN.out]; exact HO
          have HN : (E.take (k + 1)).filter (pB R) = [] → u5 = .slice none 0 0 := fun h => HNIL.out (by rw [← HF.out, ← HSN.out]; exact h)
          first | exact ⟨k + 1, by omega, by go_num, HO', HN, HB, by simp; omega⟩ | ((repeat apply Exists.intro); refine ⟨?_, rfl⟩; exact ⟨k + 1, by omega, by go_num, HO', HN, HB, by simp; omega⟩)
        case measure => simp [intOf]; omega
    · have hke : k = E.length := by omega
      have HFE : Hid (F = E.filter (pB R)) := by
        show F = _
        rw [HF.out, hke, List.take_length]
      go_wp2
      go_ret
      exact ⟨_, rfl, by rw [← HFE.out]; exact hown, fun h => HNIL.out (by rw [← HF.out, HFE.out]; exact h), hnx⟩

theorem zzupTo12_any (g c : Nat) (E : List Ent) (q R : Int) (w : World) (hn : E.length ≤ 65536) (hg : g < w.heap.size) (hc : EntCells w g E) :
    Calls Try.prog 12 #[.slice (some ⟨g, 0, none⟩) E.length c, .int .i64 q, .int .i64 R] w fun e w' => ∃ v, e = .returned v ∧ w'.ownsRow w.heap.size 32 3 v (E.filter (pB R)).length (cellsE (E.filter (pB R))) ∧
      (E.filter (pB R) = [] → v = .slice none 0 0) ∧ Below w.heap.size w w' := by
  have HC := upTo18_any g c E q R w hn hg hc
  clear hn hg hc
  go_enter Try.func12, Try.ntmps12
  go_wp2_with (go_at_call 18; refine HC.mono ?_; rintro e w1 ⟨v, rfl, h1, h2, h3⟩)
  go_ret
  exact ⟨v, rfl, h1, h2, h3⟩

/-- The same key, value and revision? -/
def sameE (a b : Ent) : Bool := (a.k.toList == b.k.toList) && (a.v.toList == b.v.toList) && (a.r == b.r)

set_option maxHeartbeats 800000 in
set_option maxRecDepth 100000 in
theorem same13_any (a b : Ent) (w : World) :
    Calls Try.prog 13 #[.agg #[.string a.k, .string a.v, .int .i64 a.r], .agg #[.string b.k, .string b.v, .int .i64 b.r]] w fun e w' => e = .returned (.bool (sameE a b)) ∧ Below w.heap.size w w' := by
  have hB : ∀ o1 o2 : Obj, Below w.heap.size w ((w.alloc o1).alloc o2) := fun o1 o2 => ((Below.refl _ _).alloc (Nat.le_refl _) o1).alloc (by simp) o2
  cases h1 : (a.k.toList == b.k.toList) with
  | false =>
    go_enter Try.func13, Try.ntmps13
    go_wp2
    go_ret
    exact ⟨by simp [sameE, h1], hB _ _⟩
  | true =>
    cases h2 : (a.v.toList == b.v.toList) with
    | false =>
      go_enter Try.func13, Try.ntmps13
      go_wp2
      go_ret
      exact ⟨by simp [sameE, h1, h2], hB _ _⟩
    | true =>
      go_enter Try.func13, Try.ntmps13
      go_wp2
      go_ret
      exact ⟨by simp [sameE, h1, h2], hB _ _⟩

end Go.Proofs.Qxb6600318a
