/-
  THE LAW FnSetExact: her walk.
-/
import Derived.Test.Qxb6600318aSet
namespace Go.Proofs.Qxb6600318a
open Go.RowKit Go.Maps Go.WideMaps

theorem memB_hit (ss : List ByteArray) (k j : Nat) (x : ByteArray) (hj : j < k) (hk : k ≤ ss.length) (he : ((ss.getD j ByteArray.empty).toList == x.toList) = true) : memB (ss.take k) x = true := by
  unfold memB
  rw [List.any_eq_true]
  have hj' : j < (ss.take k).length := by simp; omega
  refine ⟨(ss.take k)[j], List.getElem_mem hj', ?_⟩
  rw [ByteArray.toList_eq, ByteArray.toList_eq] at he
  have e : ss.getD j ByteArray.empty = (ss.take k)[j] := by
    rw [List.getElem_take]
    simp [List.getD, show j < ss.length by omega]
  rw [← e]; exact he

theorem memB_next (ss : List ByteArray) (j : Nat) (x : ByteArray) (hj : j < ss.length) (h : memB (ss.take j) x = false) (he : ((ss.getD j ByteArray.empty).toList == x.toList) = false) : memB (ss.take (j + 1)) x = false := by
  rw [take_succ ss j hj, memB_snoc, h, Bool.false_or]
  rw [ByteArray.toList_eq, ByteArray.toList_eq] at he
  exact he

theorem memB_self (ss : List ByteArray) (k : Nat) (hk : k < ss.length) : memB ss (ss.getD k ByteArray.empty) = true := by
  have := memB_hit ss ss.length k (ss.getD k ByteArray.empty) hk (Nat.le_refl _) (by simp)
  rwa [List.take_length] at this

theorem memB_zero (ss : List ByteArray) (x : ByteArray) : memB (ss.take 0) x = false := by simp [memB]

theorem dcn_le (ss : List ByteArray) (k : Nat) : dcn ss k ≤ k := by
  induction k with
  | zero => exact Nat.le_refl _
  | succ k ih => simp only [dcn]; split <;> omega

/-- The counting loop's relation. -/
def CntRel (ss : List ByteArray) (w : World) (v6 v7 : Value) (wr : World) : Prop :=
  ∃ k nd : Nat, k ≤ ss.length ∧ v7 = .int .i64 k ∧ v6 = .int .i64 (dcn ss k : Nat) ∧ wr = w.drewN nd

def SeenRel (ss : List ByteArray) (x : ByteArray) (k : Nat) (w : World) (v10 v11 : Value) (wr : World) : Prop :=
  ∃ j nd : Nat, j ≤ k ∧ v11 = .int .i64 j ∧ v10 = .bool false ∧ memB (ss.take j) x = false ∧ wr = w.drewN nd

def InRel (ss : List ByteArray) (x : ByteArray) (v12 v13 : Value) : Prop :=
  ∃ j : Nat, j ≤ ss.length ∧ v13 = .int .i64 j ∧ v12 = .bool false ∧ memB (ss.take j) x = false

set_option maxHeartbeats 1600000 in
set_option maxRecDepth 100000 in
theorem exact5_some (a : Option Addr) (len cap : Nat) (ss : List ByteArray) (s : ByteArray) (w : World) (h : IsStrs w a len cap ss) (hs : s.size ≤ maxLen) (h0 : 0 < ss.length) (hn4 : ss.length ≤ 4096) (hs4 : s.size ≤ 1048576) :
    Calls Try.prog 5 #[.slice a len cap, .string s] w fun e w' => e = .returned (.bool true) ∧ Below w.heap.size w w' := by
  have HC15 := bytes15_any h s hs
  have HC8 := sbytes8_any h (by omega)
  have HC9 := clone9_any h (by omega)
  have hsz := h.1
  obtain rfl := h.row.1
  have hq := fun (wx : World) (r : Option Nat) => run_eql_map_nil (P := Try.prog) wx 36 9 4 r Try.underlying36
  have d1 : decide ((4096 : Int) < (ss.length : Int)) = false := decide_eq_false (by omega)
  have d2 : decide ((1048576 : Int) < (s.size : Int)) = false := decide_eq_false (by omega)
  have HSZ : Hid (∀ s ∈ ss, s.size ≤ maxLen) := hsz
  clear h hsz
  go_enter Try.func5, Try.ntmps5
  go_upto_region 8 with (first | (go_at_call 15; refine HC15.mono ?_; rintro e w' ⟨⟨r, rfl⟩, rfl⟩) | (go_at_call 8; refine HC8.mono ?_; rintro e w' ⟨⟨N, rfl, hN⟩, rfl⟩) | (go_at_call 9; refine HC9.mono ?_; rintro e w1 ⟨a', c', rfl, hrow, hb1⟩))
  · go_ret; exact ⟨rfl, Below.refl _ _⟩
  · go_ret; exact ⟨rfl, Below.refl _ _⟩
  have HC16 := zzset16_any (c := c') hrow (by omega) HSZ.out
  obtain ⟨g, rfl, hg, hcg⟩ := hrow h0
  have HCG : Hid (∀ j, j < ss.length → w1.cell? ⟨g, j, none⟩ = some (.string (ss.getD j ByteArray.empty))) := hcg
  clear HC15 HC8 HC9 hrow hcg
  go_wp2_with (go_at_call 16; refine HC16.mono ?_; rintro e w2 ⟨b, rfl, hset, hbb, hb2⟩)
  have hB : Below w'.heap.size w' w2 := hb1.trans (hb2.mono hb1.size)
  have HCX : Hid (∀ j, j < ss.length → w2.cell? ⟨g, j, none⟩ = some (.string (ss.getD j ByteArray.empty))) := fun j hj => (hb2.cell (by exact hg)).trans (HCG.out j hj)
  have HSET : Hid (IsSet w2 b ss) := hset
  clear HC16 hset hb1 hb2 hbb hq
  go_loopw [6, 7] (fun v6 v7 wr => CntRel ss w2 v6 v7 wr) (fun _ i _ => ss.length - (intOf i).toNat)
  case atStart => exact ⟨0, 0, Nat.zero_le _, rfl, rfl, rfl⟩
  case round =>
    obtain ⟨k, nd, hk, rfl, rfl, rfl⟩ := hrel
    have hdk := dcn_le ss k
    by_cases hlt : k < ss.length
    · have hcx := HCX.out k hlt
      obtain ⟨x, hx⟩ : ∃ x, x = ss.getD k ByteArray.empty := ⟨_, rfl⟩
      rw [← hx] at hcx
      have hxs : x.size ≤ maxLen := by
        rw [hx, List.getD, List.getElem?_eq_getElem hlt]; exact HSZ.out _ (List.getElem_mem hlt)
      have hlk : (Instr.lookup 36 (.map (some b)) (.string x) true).run Try.prog (w2.drewN nd) = .ok (.tuple #[.bool true, .bool true]) (w2.drewN nd) := by
        have h1 : IsSet (w2.drewN nd) b ss := HSET.out
        rw [h1.look x hxs, hx, memB_self ss k hlt]
      have HX : Hid (x = ss.getD k ByteArray.empty) := hx
      clear hx
      go_wp2
      clear hlk
      go_loopw [10, 11] (fun v10 v11 wr => SeenRel ss x k w2 v10 v11 wr) (fun _ i _ => k - (intOf i).toNat)
      case atStart => exact ⟨0, nd, Nat.zero_le _, rfl, rfl, memB_zero ss x, rfl⟩
      case round =>
        obtain ⟨j, nd2, hj, rfl, rfl, hmb, rfl⟩ := hrel
        have HMB : Hid (memB (ss.take j) x = false) := hmb
        clear hmb
        by_cases hjk : j < k
        · have hcy := HCX.out j (by omega)
          obtain ⟨y, hy⟩ : ∃ y, y = ss.getD j ByteArray.empty := ⟨_, rfl⟩
          rw [← hy] at hcy
          have HY : Hid (y = ss.getD j ByteArray.empty) := hy
          have i1 : (j : Int) < (ss.length : Int) := by omega
          have i2 : (k : Int) < (ss.length : Int) := by omega
          clear hy
          cases hyx : (y.toList == x.toList) with
          | true =>
            have HM : Hid (memB (ss.take k) x = true) := memB_hit ss k j x hjk hk (by rw [← HY.out]; exact hyx)
            have HD : Hid (dcn ss (k + 1) = dcn ss k) := by
              show dcn ss (k + 1) = _
              simp only [dcn]; rw [← HX.out, HM.out]; rfl
            go_wp2
            go_quiet (fail)
            go_wp2
            go_roundw
            case rel => first | exact ⟨k + 1, nd2 + nq, by omega, by go_num, by rw [HD.out], by simp⟩ | ((repeat apply Exists.intro); refine ⟨?_, rfl⟩; exact ⟨k + 1, nd2 + nq, by omega, by go_num, by rw [HD.out], by simp⟩)
            case measure => simp [intOf]; omega
          | false =>
            have HM : Hid (memB (ss.take (j + 1)) x = false) := memB_next ss j x (by omega) HMB.out (by rw [← HY.out]; exact hyx)
            go_wp2
            go_quiet (fail)
            go_wp2
            go_roundw
            case rel => first | exact ⟨j + 1, nd2 + nq, by omega, by go_num, rfl, HM.out, by simp⟩ | ((repeat apply Exists.intro); refine ⟨?_, rfl⟩; exact ⟨j + 1, nd2 + nq, by omega, by go_num, rfl, HM.out, by simp⟩)
            case measure => simp [intOf]; omega
        · have hje : j = k := by omega
          have HD : Hid (dcn ss (k + 1) = dcn ss k + 1) := by
            show dcn ss (k + 1) = _
            simp only [dcn]; rw [← HX.out, ← hje, HMB.out]; rfl
          clear hje
          go_wp2
          go_roundw
          case rel => first | exact ⟨k + 1, nd2, by omega, by go_num, by rw [HD.out]; go_num, rfl⟩ | ((repeat apply Exists.intro); refine ⟨?_, rfl⟩; exact ⟨k + 1, nd2, by omega, by go_num, by rw [HD.out]; go_num, rfl⟩)
          case measure => simp [intOf]; omega
    · have hke : k = ss.length := by omega
      subst hke
      have hset : IsSet (w2.drewN nd) b ss := HSET.out
      have hlen := hset.len
      have hlk := hset.look s hs
      obtain ⟨dn, hdn⟩ : ∃ dn, dn = dcn ss ss.length := ⟨_, rfl⟩
      rw [← hdn] at hlen hdk
      clear hset
      have HLK : Hid ((Instr.lookup 36 (.map (some b)) (.string s) true).run Try.prog (w2.drewN nd) = .ok (.tuple #[.bool (memB ss s), .bool (memB ss s)]) (w2.drewN nd)) := hlk
      clear hlk
      go_wp2
      clear hlen
      go_loop [12, 13] (fun v12 v13 => InRel ss s v12 v13) (fun _ i => ss.length - (intOf i).toNat)
      case atStart => exact ⟨0, Nat.zero_le _, rfl, rfl, memB_zero ss s⟩
      case round =>
        obtain ⟨j, hj, rfl, rfl, hmb⟩ := hrel
        have HMB : Hid (memB (ss.take j) s = false) := hmb
        clear hmb
        by_cases hjk : j < ss.length
        · have hcy := HCX.out j (by omega)
          obtain ⟨y, hy⟩ : ∃ y, y = ss.getD j ByteArray.empty := ⟨_, rfl⟩
          rw [← hy] at hcy
          have HY : Hid (y = ss.getD j ByteArray.empty) := hy
          clear hy
          cases hyx : (y.toList == s.toList) with
          | true =>
            have hlk := HLK.out
            have hM := memB_hit ss ss.length j s hjk (Nat.le_refl _) (by rw [← HY.out]; exact hyx)
            rw [List.take_length] at hM
            rw [hM] at hlk
            clear hM
            go_wp2
            go_ret
            exact ⟨by simp, below_drewN hB nd⟩
          | false =>
            have HM : Hid (memB (ss.take (j + 1)) s = false) := memB_next ss j s (by omega) HMB.out (by rw [← HY.out]; exact hyx)
            go_wp2
            go_round
            case rel => first | exact ⟨j + 1, by omega, by go_num, rfl, HM.out⟩ | ((repeat apply Exists.intro); refine ⟨?_, rfl⟩; exact ⟨j + 1, by omega, by go_num, rfl, HM.out⟩)
            case measure => simp [intOf]; omega
        · have hje : j = ss.length := by omega
          subst hje
          have hlk := HLK.out
          have hM := HMB.out
          rw [List.take_length] at hM
          rw [hM] at hlk
          clear hM
          go_wp2
          go_ret
          exact ⟨by simp, below_drewN hB nd⟩

set_option maxHeartbeats 800000 in
set_option maxRecDepth 100000 in
theorem exact5_none (a : Option Addr) (len cap : Nat) (s : ByteArray) (w : World) (h : IsStrs w a len cap []) (hs : s.size ≤ maxLen) (hs4 : s.size ≤ 1048576) :
    Calls Try.prog 5 #[.slice a len cap, .string s] w fun e w' => e = .returned (.bool true) ∧ Below w.heap.size w w' := by
  have HC15 := bytes15_any h s hs
  have HC8 := sbytes8_any h (by simp)
  have HC9 := clone9_any h (by simp)
  obtain rfl := h.row.1
  have hq := fun (wx : World) (r : Option Nat) => run_eql_map_nil (P := Try.prog) wx 36 9 4 r Try.underlying36
  have d2 : decide ((1048576 : Int) < (s.size : Int)) = false := decide_eq_false (by omega)
  clear h
  go_enter Try.func5, Try.ntmps5
  go_upto_region 8 with (first | (go_at_call 15; refine HC15.mono ?_; rintro e w' ⟨⟨r, rfl⟩, rfl⟩) | (go_at_call 8; refine HC8.mono ?_; rintro e w' ⟨⟨N, rfl, hN⟩, rfl⟩) | (go_at_call 9; refine HC9.mono ?_; rintro e w1 ⟨a', c', rfl, hrow, hb1⟩))
  · go_ret; exact ⟨rfl, Below.refl _ _⟩
  · go_ret; exact ⟨rfl, Below.refl _ _⟩
  have HC16 := zzset16_any (c := c') hrow (by simp) (by simp)
  clear HC15 HC8 HC9 hrow
  go_wp2_with (go_at_call 16; refine HC16.mono ?_; rintro e w2 ⟨b, rfl, hset, hbb, hb2⟩)
  have hB : Below w'.heap.size w' w2 := hb1.trans (hb2.mono hb1.size)
  have hlen := hset.len
  have hlk : (Instr.lookup 36 (.map (some b)) (.string s) true).run Try.prog w2 = .ok (.tuple #[.bool false, .bool false]) w2 := hset.look s hs
  have hl2 : ∀ ty, (Builtin.len_ #[36] ty #[.map (some b)]).run Try.prog w2 = .ok (.int .i64 0) w2 := hlen
  clear HC16 hset hb1 hb2 hbb hq hlen
  refine wp_loop_rounds 1 ?_
  rw [rounds_succ]
  go_wp2
  refine wp_loop_rounds 1 ?_
  rw [rounds_succ]
  go_wp2
  go_ret
  exact ⟨by simp, hB⟩

set_option maxHeartbeats 800000 in
set_option maxRecDepth 100000 in
/-- Too long a list, or too long a probe: the law lets it by. -/
theorem exact5_out (a : Option Addr) (len cap : Nat) (ss : List ByteArray) (s : ByteArray) (w : World) (h : IsStrs w a len cap ss) (hs : s.size ≤ maxLen) (ho : 4096 < ss.length ∨ 1048576 < s.size) :
    Calls Try.prog 5 #[.slice a len cap, .string s] w fun e w' => e = .returned (.bool true) ∧ Below w.heap.size w w' := by
  have HC15 := bytes15_any h s hs
  obtain rfl := h.row.1
  clear h
  by_cases h1 : 4096 < ss.length
  · have d1 : decide ((4096 : Int) < (ss.length : Int)) = true := decide_eq_true (by omega)
    clear ho
    go_enter Try.func5, Try.ntmps5
    go_wp2_with (go_at_call 15; refine HC15.mono ?_; rintro e w' ⟨⟨r, rfl⟩, rfl⟩)
    all_goals (go_ret; exact ⟨rfl, Below.refl _ _⟩)
  · have d1 : decide ((4096 : Int) < (ss.length : Int)) = false := decide_eq_false (by omega)
    have d2 : decide ((1048576 : Int) < (s.size : Int)) = true := decide_eq_true (by omega)
    clear ho
    go_enter Try.func5, Try.ntmps5
    go_wp2_with (go_at_call 15; refine HC15.mono ?_; rintro e w' ⟨⟨r, rfl⟩, rfl⟩)
    all_goals (go_ret; exact ⟨rfl, Below.refl _ _⟩)

theorem exact5_walk (a : Option Addr) (len cap : Nat) (ss : List ByteArray) (s : ByteArray) (w : World) (h : IsStrs w a len cap ss) (hs : s.size ≤ maxLen) :
    Calls Try.prog 5 #[.slice a len cap, .string s] w fun e w' => e = .returned (.bool true) ∧ Below w.heap.size w w' := by
  by_cases ho : 4096 < ss.length ∨ 1048576 < s.size
  · exact exact5_out a len cap ss s w h hs ho
  · by_cases h0 : 0 < ss.length
    · exact exact5_some a len cap ss s w h hs h0 (by omega) (by omega)
    · have e : ss = [] := List.eq_nil_of_length_eq_zero (by omega)
      subst e
      exact exact5_none a len cap s w h hs (by omega)

end Go.Proofs.Qxb6600318a
