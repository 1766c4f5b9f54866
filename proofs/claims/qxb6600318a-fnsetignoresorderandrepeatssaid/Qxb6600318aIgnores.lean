/-
  THE LAW FnSetIgnoresOrderAndRepeats: her walk.
-/
import Derived.Test.Qxb6600318aSet
namespace Go.Proofs.Qxb6600318a
open Go.RowKit Go.Maps Go.WideMaps

/-- The names read backward, from the last down to the k-th. -/
def rev (ss : List ByteArray) : Nat → List ByteArray
  | 0 => []
  | m + 1 => rev ss m ++ [ss.getD (ss.length - 1 - m) ByteArray.empty]

theorem rev_len (ss : List ByteArray) (m : Nat) : (rev ss m).length = m := by
  induction m with
  | zero => rfl
  | succ m ih => simp [rev, ih]

theorem memL_append (a b : List ByteArray) (k : Lit) : memL (a ++ b) k = (memL a k || memL b k) := by simp [memL]

theorem memL_get (ss : List ByteArray) (j : Nat) (hj : j < ss.length) (k : Lit) (h : (keyL (ss.getD j ByteArray.empty)).sameKey k = true) : memL ss k = true := by
  unfold memL
  rw [List.any_eq_true]
  refine ⟨ss[j], List.getElem_mem hj, ?_⟩
  rw [List.getD, List.getElem?_eq_getElem hj] at h
  exact h

theorem memL_rev (ss : List ByteArray) (m : Nat) (hm : m ≤ ss.length) (k : Lit) (h : memL (rev ss m) k = true) : memL ss k = true := by
  induction m with
  | zero => simp [rev, memL] at h
  | succ m ih =>
    simp only [rev] at h
    rw [memL_snoc, Bool.or_eq_true] at h
    rcases h with h | h
    · exact ih (by omega) h
    · exact memL_get ss _ (by omega) k h

/-- The doubled list has the names of the list. -/
theorem memL_doubled (ss : List ByteArray) (k : Lit) : memL (rev ss ss.length ++ ss) k = memL ss k := by
  rw [memL_append]
  cases e : memL (rev ss ss.length) k with
  | false => rfl
  | true => rw [memL_rev ss ss.length (Nat.le_refl _) k e]; rfl

theorem size_rev (ss : List ByteArray) (m : Nat) (hm : m ≤ ss.length) (hsz : ∀ s ∈ ss, s.size ≤ maxLen) : ∀ s ∈ rev ss m, s.size ≤ maxLen := by
  induction m with
  | zero => intro s hs; simp [rev] at hs
  | succ m ih =>
    intro s hs
    simp only [rev, List.mem_append, List.mem_singleton] at hs
    rcases hs with hs | rfl
    · exact ih (by omega) s hs
    · have hj : ss.length - 1 - m < ss.length := by omega
      rw [List.getD, List.getElem?_eq_getElem hj]; exact hsz _ (List.getElem_mem hj)

theorem memB_at (ks : List ByteArray) (j : Nat) (hj : j < ks.length) : memB ks (ks.getD j ByteArray.empty) = true := by
  rw [← memL_keyL]
  exact memL_get ks j hj _ (WideAt.sameKey_self (keyL_is _))


theorem take_all (ss : List ByteArray) (k : Nat) (hk : k < ss.length) (pre : List ByteArray) : (pre ++ ss.take k) ++ [ss.getD k ByteArray.empty] = pre ++ ss.take (k + 1) := by
  rw [take_succ ss k hk, List.append_assoc]

/-- From an owned row of strings to what the copy is told by. -/
theorem own_strs {w : World} {base g c : Nat} {ks : List ByteArray} (h : w.ownsRow base 9 1 (.slice (some ⟨g, 0, none⟩) ks.length c) ks.length (ks.map Value.string)) : OwnStrs w (some ⟨g, 0, none⟩) ks := fun h0 =>
  ⟨g, rfl, (h.lt g rfl).2, fun j hj => by
    rw [h.cellAt j (by omega), List.getElem?_map, List.getElem?_eq_getElem hj]
    simp [List.getD, hj]⟩

def RevRel (ss : List ByteArray) (B g : Nat) (w : World) (v4 v5 : Value) (wr : World) : Prop :=
  ∃ m : Nat, m ≤ ss.length ∧ v5 = .int .i64 ((ss.length : Int) - 1 - (m : Int)) ∧ v4 = .slice (some ⟨g, 0, none⟩) m (2 * ss.length) ∧
    wr.ownsRow B 9 1 (.slice (some ⟨g, 0, none⟩) m (2 * ss.length)) m ((rev ss m).map Value.string) ∧ Below B w wr

def FwdRel (ss : List ByteArray) (B g : Nat) (w : World) (v4 v6 : Value) (wr : World) : Prop :=
  ∃ k : Nat, k ≤ ss.length ∧ v6 = .int .i64 (k : Nat) ∧ v4 = .slice (some ⟨g, 0, none⟩) (ss.length + k) (2 * ss.length) ∧
    wr.ownsRow B 9 1 (.slice (some ⟨g, 0, none⟩) (ss.length + k) (2 * ss.length)) (ss.length + k) ((rev ss ss.length ++ ss.take k).map Value.string) ∧ Below B w wr

set_option maxHeartbeats 1600000 in
set_option maxRecDepth 100000 in
theorem ignores6_some (a : Option Addr) (len cap : Nat) (ss : List ByteArray) (w : World) (h : IsStrs w a len cap ss) (h0 : 0 < ss.length) (hn4 : ss.length ≤ 4096) :
    Calls Try.prog 6 #[.slice a len cap] w fun e w' => e = .returned (.bool true) ∧ Below w.heap.size w w' := by
  have HC17 := bytes17_any h
  have HC8 := sbytes8_any h (by omega)
  have HC9 := clone9_any h (by omega)
  have hsz := h.1
  obtain ⟨i0, hi, hz0, hz1, hz2⟩ := info_parts Try.info9
  obtain rfl := h.row.1
  have d1 : decide ((4096 : Int) < (ss.length : Int)) = false := decide_eq_false (by omega)
  have HSZ : Hid (∀ s ∈ ss, s.size ≤ maxLen) := hsz
  clear h hsz
  go_enter Try.func6, Try.ntmps6
  go_upto_region 8 with (first | (go_at_call 17; refine HC17.mono ?_; rintro e w' ⟨⟨r, rfl⟩, rfl⟩) | (go_at_call 8; refine HC8.mono ?_; rintro e w' ⟨⟨N, rfl, hN⟩, rfl⟩) | (go_at_call 9; refine HC9.mono ?_; rintro e w1 ⟨a', c', rfl, hrow, hb1⟩))
  · go_ret; exact ⟨rfl, Below.refl _ _⟩
  · go_ret; exact ⟨rfl, Below.refl _ _⟩
  have HROW : Hid (OwnStrs w1 a' ss) := hrow
  obtain ⟨g, rfl, hg, hcg⟩ := hrow h0
  have HCG : Hid (∀ j, j < ss.length → w1.cell? ⟨g, j, none⟩ = some (.string (ss.getD j ByteArray.empty))) := hcg
  clear HC17 HC8 HC9 hrow hcg
  go_wp2_with (at_make; refine wpList_make_own _ rfl _ _ 22 rfl w1.heap.size 9 i0 (.string ByteArray.empty) 1 Try.underlying22 hi hz0 hz1 _ _ _ (2 * ss.length) rfl rfl (by omega) ?c1 ?c2 ?c3 ?_)
  case c1 => rw [hz2]; omega
  case c2 => unfold maxLen; omega
  case c3 => exact Nat.le_refl _
  intro w2 hown hgrow
  have hb2 : Below w1.heap.size w1 w2 := (Below.refl _ _).grown hgrow (Nat.le_refl _) (fun k h => by cases h)
  have hsz2 := hb2.size
  clear hgrow
  go_wp2
  go_loopw [4, 5] (fun v4 v5 wr => RevRel ss w1.heap.size w1.heap.size w1 v4 v5 wr) (fun _ i _ => (intOf i + 1).toNat)
  case atStart => exact ⟨0, Nat.zero_le _, by go_num, rfl, hown, hb2⟩
  case round =>
    obtain ⟨m, hm, rfl, rfl, hown, hnx⟩ := hrel
    have hszr := hnx.size
    by_cases hlt : m < ss.length
    · have hcx : wr.cell? ⟨g, ss.length - 1 - m, none⟩ = some (.string (ss.getD (ss.length - 1 - m) ByteArray.empty)) := (hnx.cell (by exact hg)).trans (HCG.out _ (by omega))
      obtain ⟨x, hx⟩ : ∃ x, x = ss.getD (ss.length - 1 - m) ByteArray.empty := ⟨_, rfl⟩
      rw [← hx] at hcx
      have HX : Hid (x = ss.getD (ss.length - 1 - m) ByteArray.empty) := hx
      have i1 : (0 : Int) ≤ (ss.length : Int) - 1 - (m : Int) := by omega
      clear hx
      go_wp2_with (at_builtin; refine wpList_append_fits _ rfl _ _ 22 rfl w1.heap.size 9 i0 1 Try.underlying22 hi hz1 w1.heap.size m (2 * ss.length) _ rfl (hown.alloc _) ⟨wr.heap.size, 0, none⟩ 1 1 [.string x] rfl rfl (cell_one_new _ _ _) ?d1 ?d2 ?_)
      case d1 => intro u hu; simp at hu; subst hu; rfl
      case d2 => omega
      intro w3 hown3 hgrow3
      have HB3 : Below w1.heap.size w1 w3 := (hnx.alloc hszr _).grown hgrow3 (by simp; omega) (fun k hk => by cases hk; exact Nat.le_refl _)
      have HO3 : w3.ownsRow w1.heap.size 9 1 (.slice (some ⟨w1.heap.size, 0, none⟩) (m + 1) (2 * ss.length)) (m + 1) ((rev ss (m + 1)).map Value.string) := by
        simp only [rev, List.map_append, List.map_cons, List.map_nil]; rw [← HX.out]; exact hown3
      clear hown3 hgrow3 hown hnx
      go_wp2
      go_roundw
      case rel => first | exact ⟨m + 1, by omega, by go_num, rfl, HO3, HB3⟩ | ((repeat apply Exists.intro); refine ⟨?_, rfl⟩; exact ⟨m + 1, by omega, by go_num, rfl, HO3, HB3⟩)
      case measure => simp [intOf]; omega
    · have hme : m = ss.length := by omega
      subst hme
      have i1 : ¬ (0 : Int) ≤ (ss.length : Int) - 1 - (ss.length : Int) := by omega
      have HO0 : wr.ownsRow w1.heap.size 9 1 (.slice (some ⟨w1.heap.size, 0, none⟩) (ss.length + 0) (2 * ss.length)) (ss.length + 0) ((rev ss ss.length ++ ss.take 0).map Value.string) := by simpa using hown
      have HNX0 := hnx
      clear hown hnx
      go_wp2
      go_loopw [4, 6] (fun v4 v6 wr => FwdRel ss w1.heap.size w1.heap.size w1 v4 v6 wr) (fun _ i _ => ss.length - (intOf i).toNat)
      case atStart => exact ⟨0, Nat.zero_le _, rfl, rfl, HO0, HNX0⟩
      case round =>
        clear HO0 HNX0 hszr
        obtain ⟨k, hk, rfl, rfl, hown, hnx⟩ := hrel
        have hszr := hnx.size
        by_cases hlt : k < ss.length
        · have hcx : wr.cell? ⟨g, k, none⟩ = some (.string (ss.getD k ByteArray.empty)) := (hnx.cell (by exact hg)).trans (HCG.out _ hlt)
          obtain ⟨x, hx⟩ : ∃ x, x = ss.getD k ByteArray.empty := ⟨_, rfl⟩
          rw [← hx] at hcx
          have HX : Hid (x = ss.getD k ByteArray.empty) := hx
          clear hx
          go_wp2_with (at_builtin; refine wpList_append_fits _ rfl _ _ 22 rfl w1.heap.size 9 i0 1 Try.underlying22 hi hz1 w1.heap.size (ss.length + k) (2 * ss.length) _ rfl (hown.alloc _) ⟨wr.heap.size, 0, none⟩ 1 1 [.string x] rfl rfl (cell_one_new _ _ _) ?e1 ?e2 ?_)
          case e1 => intro u hu; simp at hu; subst hu; rfl
          case e2 => omega
          intro w3 hown3 hgrow3
          have HB3 : Below w1.heap.size w1 w3 := (hnx.alloc hszr _).grown hgrow3 (by simp; omega) (fun k hk => by cases hk; exact Nat.le_refl _)
          have HO3 : w3.ownsRow w1.heap.size 9 1 (.slice (some ⟨w1.heap.size, 0, none⟩) (ss.length + (k + 1)) (2 * ss.length)) (ss.length + (k + 1)) ((rev ss ss.length ++ ss.take (k + 1)).map Value.string) := by
            rw [← take_all ss k hlt, ← HX.out]; simpa [List.append_assoc, Nat.add_assoc] using hown3
          clear hown3 hgrow3 hown hnx
          go_wp2
          go_roundw
          case rel => first | exact ⟨k + 1, by omega, by go_num, rfl, HO3, HB3⟩ | ((repeat apply Exists.intro); refine ⟨?_, rfl⟩; exact ⟨k + 1, by omega, by go_num, rfl, HO3, HB3⟩)
          case measure => simp [intOf]; omega
        · have hke : k = ss.length := by omega
          subst hke
          obtain ⟨ks, hks⟩ : ∃ ks, ks = rev ss ss.length ++ ss := ⟨_, rfl⟩
          have hkl : ks.length = ss.length + ss.length := by rw [hks, List.length_append, rev_len]
          have HO : wr.ownsRow w1.heap.size 9 1 (.slice (some ⟨w1.heap.size, 0, none⟩) ks.length (2 * ss.length)) ks.length (ks.map Value.string) := by
            rw [hkl, hks]; rw [List.take_length] at hown; exact hown
          have HKS : Hid (ks = rev ss ss.length ++ ss) := hks
          have hsk : ∀ s ∈ ks, s.size ≤ maxLen := by
            intro s hs
            rw [hks, List.mem_append] at hs
            rcases hs with hs | hs
            · exact size_rev ss ss.length (Nat.le_refl _) HSZ.out s hs
            · exact HSZ.out s hs
          have HC16 := zzset16_any (c := c') (HROW.out.below hnx (Nat.le_refl _)) (by omega) HSZ.out
          have HOK := own_strs HO
          have HSK : Hid (∀ s ∈ ks, s.size ≤ maxLen) := hsk
          have HKL : Hid (ks.length = ss.length + ss.length) := hkl
          clear hown HO hks hsk hkl
          go_upto_region 19 with (go_at_call 16; refine HC16.mono ?_; rintro e w4 ⟨b1, rfl, hset1, hbb1, hb4⟩)
          have HC16b := zzset16_any (c := 2 * ss.length) (HOK.below hb4 (Nat.le_refl _)) (by have := HKL.out; omega) HSK.out
          rw [HKL.out] at HC16b
          have HSET1 : Hid (IsSet w4 b1 ss) := hset1
          have hbl1 := hset1.lt
          clear HC16 hset1
          go_upto_region 20 with (go_at_call 16; refine HC16b.mono ?_; rintro e w5 ⟨b2, rfl, hset2, hbb2, hb5⟩)
          have hset1 : IsSet w5 b1 ss := HSET1.out.below hb5 hbl1
          have hsame := hset1.same hset2 (fun k => by rw [HKS.out, memL_doubled])
          have hl1 := hset1.len
          have hl2 := hset2.len
          rw [← hsame] at hl2
          obtain ⟨dn, hdn⟩ : ∃ dn, dn = dcn ss ss.length := ⟨_, rfl⟩
          rw [← hdn] at hl1 hl2
          have HOK5 := (HOK.below hb4 (Nat.le_refl _)).below hb5 (Nat.le_refl _)
          obtain ⟨g', eg, hg', hck⟩ := HOK5 (by have := HKL.out; omega)
          have eg' : w1.heap.size = g' := by simpa using eg
          subst eg'
          have HCK : Hid (∀ j, j < ks.length → w5.cell? ⟨w1.heap.size, j, none⟩ = some (.string (ks.getD j ByteArray.empty))) := hck
          have HS1 : Hid (IsSet w5 b1 ss) := hset1
          have HS2 : Hid (IsSet w5 b2 ks) := hset2
          have hB : Below w'.heap.size w' w5 := hb1.trans ((hnx.trans ((hb4.mono hszr).trans (hb5.mono (Nat.le_trans hszr hb4.size)))).mono hb1.size)
          clear hsame hdn HOK HOK5 hck hset1 hset2 HC16b hb4 hb5 hnx hb2 eg
          go_wp2
          clear hl1 hl2
          go_loop [9] (fun v9 => ∃ j : Nat, j ≤ ss.length + ss.length ∧ v9 = .int .i64 j) (fun i => ss.length + ss.length - (intOf i).toNat)
          case atStart => exact ⟨0, Nat.zero_le _, rfl⟩
          case round =>
            obtain ⟨j, hj, rfl⟩ := hrel
            by_cases hjk : j < ss.length + ss.length
            · have hjk' : j < ks.length := by rw [HKL.out]; exact hjk
              have hcy := HCK.out j hjk'
              obtain ⟨y, hy⟩ : ∃ y, y = ks.getD j ByteArray.empty := ⟨_, rfl⟩
              rw [← hy] at hcy
              have hys : y.size ≤ maxLen := by
                rw [hy, List.getD, List.getElem?_eq_getElem hjk']; exact HSK.out _ (List.getElem_mem hjk')
              have hm2 : memB ks y = true := by rw [hy]; exact memB_at ks j hjk'
              have hm1 : memB ss y = true := by rw [← memL_keyL, ← memL_doubled ss, ← HKS.out, memL_keyL]; exact hm2
              have hk1 := HS1.out.look y hys
              have hk2 := HS2.out.look y hys
              rw [hm1] at hk1
              rw [hm2] at hk2
              clear hy hm1 hm2 hjk'
              go_wp2
              go_round
              case rel => first | exact ⟨j + 1, by omega, by go_num⟩ | ((repeat apply Exists.intro); refine ⟨?_, rfl⟩; exact ⟨j + 1, by omega, by go_num⟩)
              case measure => simp [intOf]; omega
            · go_wp2
              go_ret
              exact ⟨rfl, hB⟩

set_option maxHeartbeats 800000 in
set_option maxRecDepth 100000 in
theorem ignores6_none (a : Option Addr) (len cap : Nat) (w : World) (h : IsStrs w a len cap []) :
    Calls Try.prog 6 #[.slice a len cap] w fun e w' => e = .returned (.bool true) ∧ Below w.heap.size w w' := by
  have HC17 := bytes17_any h
  have HC8 := sbytes8_any h (by simp)
  have HC9 := clone9_any h (by simp)
  obtain ⟨i0, hi, hz0, hz1, hz2⟩ := info_parts Try.info9
  obtain rfl := h.row.1
  clear h
  go_enter Try.func6, Try.ntmps6
  go_upto_region 8 with (first | (go_at_call 17; refine HC17.mono ?_; rintro e w' ⟨⟨r, rfl⟩, rfl⟩) | (go_at_call 8; refine HC8.mono ?_; rintro e w' ⟨⟨N, rfl, hN⟩, rfl⟩) | (go_at_call 9; refine HC9.mono ?_; rintro e w1 ⟨a', c', rfl, hrow, hb1⟩))
  · go_ret; exact ⟨rfl, Below.refl _ _⟩
  · go_ret; exact ⟨rfl, Below.refl _ _⟩
  clear HC17 HC8 HC9
  go_wp2_with (at_make; refine wpList_make_own _ rfl _ _ 22 rfl w1.heap.size 9 i0 (.string ByteArray.empty) 1 Try.underlying22 hi hz0 hz1 _ _ _ 0 rfl rfl rfl ?c1 ?c2 ?c3 ?_)
  case c1 => simp
  case c2 => simp
  case c3 => exact Nat.le_refl _
  intro w2 hown hgrow
  have hb2 : Below w1.heap.size w1 w2 := (Below.refl _ _).grown hgrow (Nat.le_refl _) (fun k h => by cases h)
  clear hgrow
  go_wp2
  refine wp_loop_rounds 1 ?_
  rw [rounds_succ]
  go_wp2
  refine wp_loop_rounds 1 ?_
  rw [rounds_succ]
  have HC16 := zzset16_any (c := c') (hrow.below hb2 (Nat.le_refl _)) (by simp) (by simp)
  go_upto_region 19 with (go_at_call 16; refine HC16.mono ?_; rintro e w4 ⟨b1, rfl, hset1, hbb1, hb4⟩)
  have HC16b : Calls Try.prog 16 #[.slice (some ⟨w1.heap.size, 0, none⟩) 0 0] w4 fun e w' => ∃ b, e = .returned (.map (some b)) ∧ IsSet w' b [] ∧ w4.heap.size ≤ b ∧ Below w4.heap.size w4 w' := zzset16_any (ss := []) (fun h => absurd h (by simp)) (by simp) (by simp)
  clear HC16
  go_upto_region 20 with (go_at_call 16; refine HC16b.mono ?_; rintro e w5 ⟨b2, rfl, hset2, hbb2, hb5⟩)
  have hl1 : ∀ ty, (Builtin.len_ #[36] ty #[.map (some b1)]).run Try.prog w5 = .ok (.int .i64 0) w5 := (hset1.below hb5 hset1.lt).len
  have hl2 : ∀ ty, (Builtin.len_ #[36] ty #[.map (some b2)]).run Try.prog w5 = .ok (.int .i64 0) w5 := hset2.len
  have hB : Below w'.heap.size w' w5 := hb1.trans ((hb2.trans ((hb4.mono hb2.size).trans (hb5.mono (Nat.le_trans hb2.size hb4.size)))).mono hb1.size)
  clear HC16b hset1 hset2
  go_wp2
  refine wp_loop_rounds 1 ?_
  rw [rounds_succ]
  go_wp2
  go_ret
  exact ⟨rfl, hB⟩

set_option maxHeartbeats 800000 in
theorem ignores6_out (a : Option Addr) (len cap : Nat) (ss : List ByteArray) (w : World) (h : IsStrs w a len cap ss) (ho : 4096 < ss.length) :
    Calls Try.prog 6 #[.slice a len cap] w fun e w' => e = .returned (.bool true) ∧ Below w.heap.size w w' := by
  have HC17 := bytes17_any h
  obtain rfl := h.row.1
  clear h
  go_enter Try.func6, Try.ntmps6
  go_wp2_with (go_at_call 17; refine HC17.mono ?_; rintro e w' ⟨⟨r, rfl⟩, rfl⟩)
  all_goals (go_ret; exact ⟨rfl, Below.refl _ _⟩)

theorem ignores6_walk (a : Option Addr) (len cap : Nat) (ss : List ByteArray) (w : World) (h : IsStrs w a len cap ss) :
    Calls Try.prog 6 #[.slice a len cap] w fun e w' => e = .returned (.bool true) ∧ Below w.heap.size w w' := by
  by_cases ho : 4096 < ss.length
  · exact ignores6_out a len cap ss w h ho
  · by_cases h0 : 0 < ss.length
    · exact ignores6_some a len cap ss w h h0 (by omega)
    · have e : ss = [] := List.eq_nil_of_length_eq_zero (by omega)
      subst e
      exact ignores6_none a len cap w h

end Go.Proofs.Qxb6600318a
