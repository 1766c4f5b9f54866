/-
  THE WALKS OF commonPrefix, compareFrom, (*packedStrings).scan, ZZPackedScan.
-/
import Derived.Test.Qxb6600267aAt
import Derived.Test.Qxb6600267aScanPlain
import Derived.Deep.RegionWith
namespace Go.Proofs.Qxb6600267a
open Go.RowKit

set_option maxHeartbeats 800000 in
theorem cp29_any (a b : ByteArray) (w : World) (ha : a.size ≤ maxLen) (hb : b.size ≤ maxLen) :
    Calls Try.prog 29 #[.string a, .string b] w fun e w' => e = .returned (.int .i64 (Pk.cp a.data.toList b.data.toList : Nat)) ∧ ∃ n, w' = w.drewN n := by
  unfold maxLen at ha hb
  by_cases hab : b.size < a.size
  · go_enter Try.func29, Try.ntmps29
    go_wp2
    go_loopw [13] (fun i wr => ∃ (k n : Nat), k ≤ b.size ∧ i = .int .i64 k ∧ a.data.toList.take k = b.data.toList.take k ∧ wr = w.drewN n) (fun i _ => b.size - (intOf i).toNat)
    case atStart => exact ⟨0, 0, Nat.zero_le _, rfl, rfl, rfl⟩
    case round =>
      obtain ⟨k, n, hk, rfl, heq, rfl⟩ := hrel
      have HE : Hid (a.data.toList.take k = b.data.toList.take k) := heq
      clear heq
      by_cases hlt : k < b.size
      · have hka : k < a.size := by omega
        have h1 : (k : Int) < (a.size : Int) := by omega
        have h2 : (k : Int) < (b.size : Int) := by omega
        go_wp2
        go_quiet (fail)
        go_wp2
        · have hne : ((a[k].toNat : Int) != (b[k].toNat : Int)) = true := by assumption
          go_ret
          exact ⟨ret_int (by rw [cp_stop HE.out hka hlt hne]), n + nq, by simp⟩
        · have hne : ((a[k].toNat : Int) != (b[k].toNat : Int)) = false := by assumption
          go_roundw
          case rel => exact ⟨k + 1, n + nq, by omega, by go_num, cp_more HE.out hka hlt hne, rfl⟩
          case measure => simp [intOf]; omega
      · go_wp2
        go_ret
        exact ⟨ret_int (by rw [cp_full HE.out (by omega) (by omega) (.inr (by omega))]; omega), _, rfl⟩
  · go_enter Try.func29, Try.ntmps29
    go_wp2
    go_loopw [13] (fun i wr => ∃ (k n : Nat), k ≤ a.size ∧ i = .int .i64 k ∧ a.data.toList.take k = b.data.toList.take k ∧ wr = w.drewN n) (fun i _ => a.size - (intOf i).toNat)
    case atStart => exact ⟨0, 0, Nat.zero_le _, rfl, rfl, rfl⟩
    case round =>
      obtain ⟨k, n, hk, rfl, heq, rfl⟩ := hrel
      have HE : Hid (a.data.toList.take k = b.data.toList.take k) := heq
      clear heq
      by_cases hlt : k < a.size
      · have hkb : k < b.size := by omega
        have h1 : (k : Int) < (a.size : Int) := by omega
        have h2 : (k : Int) < (b.size : Int) := by omega
        go_wp2
        go_quiet (fail)
        go_wp2
        · have hne : ((a[k].toNat : Int) != (b[k].toNat : Int)) = true := by assumption
          go_ret
          exact ⟨ret_int (by rw [cp_stop HE.out hlt hkb hne]), n + nq, by simp⟩
        · have hne : ((a[k].toNat : Int) != (b[k].toNat : Int)) = false := by assumption
          go_roundw
          case rel => exact ⟨k + 1, n + nq, by omega, by go_num, cp_more HE.out hlt hkb hne, rfl⟩
          case measure => simp [intOf]; omega
      · go_wp2
        go_ret
        exact ⟨ret_int (by rw [cp_full HE.out (by omega) (by omega) (.inl (by omega))]; omega), _, rfl⟩

/-- What compareFrom answers, as the Go text reckons it: D how much rest and the tail of s share, S + D the matched bytes. -/
def cmpB (rest s : ByteArray) (S D : Nat) : Int :=
  if D = rest.size ∧ S + D = s.size then 0 else if D = rest.size then -1 else if S + D = s.size ∨ s.data.toList.getD (S + D) 0 < rest.data.toList.getD D 0 then 1 else -1

set_option maxHeartbeats 1600000 in
set_option maxRecDepth 100000 in
theorem cmp27_any (rest s : ByteArray) (S D : Nat) (w : World) (hr : rest.size ≤ 1048576) (hs : s.size ≤ 1048576) (hS : S ≤ s.size) (HD : Hid (D = Pk.cp rest.data.toList (s.data.toList.drop S))) :
    Calls Try.prog 27 #[.string rest, .string s, .int .i64 S] w fun e w' => e = .returned (.tuple #[.int .i64 (S + D : Nat), .int .i64 (cmpB rest s S D)]) ∧ ∃ n, w' = w.drewN n := by
  have hD1 : D ≤ rest.size := by rw [HD.out]; exact Nat.le_trans (Pk.cp_le_left _ _) (by rw [str_len]; exact Nat.le_refl _)
  have hD2 : S + D ≤ s.size := by
    have := Pk.cp_le_right rest.data.toList (s.data.toList.drop S)
    rw [← HD.out, List.length_drop, str_len] at this
    omega
  have HC : ∀ wx : World, Calls Try.prog 29 #[.string rest, .string (s.extract S s.size)] wx fun e w' => e = .returned (.int .i64 (D : Nat)) ∧ ∃ n, w' = wx.drewN n := by
    intro wx
    have h := cp29_any rest (s.extract S s.size) wx (by unfold maxLen; omega) (by unfold maxLen; rw [ByteArray.size_extract]; omega)
    rw [extract_list, List.take_of_length_le (i := s.size - S) (by simp), ← HD.out] at h
    exact h
  have HS : Hid (S ≤ s.size) := hS
  by_cases e1 : D = rest.size
  · have b1 : ((D : Int) == (rest.size : Int)) = true := by simp; omega
    by_cases e2 : S + D = s.size
    · have b2 : ((S : Int) + (D : Int) == (s.size : Int)) = true := by simp; omega
      have HV : Hid (cmpB rest s S D = 0) := if_pos ⟨e1, e2⟩
      clear e1 e2
      go_enter Try.func27, Try.ntmps27
      go_wp2_with (go_at_call 29; refine (HC _).mono ?_; rintro e w1 ⟨rfl, nd, rfl⟩)
      go_ret2
      exact ⟨ret_two (by omega) HV.out.symm, _, rfl⟩
    · have b2 : ((S : Int) + (D : Int) == (s.size : Int)) = false := by simp; omega
      have HV : Hid (cmpB rest s S D = -1) := by
        show cmpB rest s S D = -1
        unfold cmpB; rw [if_neg (by omega), if_pos e1]
      clear e1 e2
      go_enter Try.func27, Try.ntmps27
      go_wp2_with (go_at_call 29; refine (HC _).mono ?_; rintro e w1 ⟨rfl, nd, rfl⟩)
      go_ret2
      exact ⟨ret_two (by omega) HV.out.symm, _, rfl⟩
  · have b1 : ((D : Int) == (rest.size : Int)) = false := by simp; omega
    by_cases e2 : S + D = s.size
    · have b2 : ((S : Int) + (D : Int) == (s.size : Int)) = true := by simp; omega
      have HV : Hid (cmpB rest s S D = 1) := by
        show cmpB rest s S D = 1
        unfold cmpB; rw [if_neg (by omega), if_neg e1, if_pos (.inl e2)]
      clear e1 e2
      go_enter Try.func27, Try.ntmps27
      go_wp2_with (go_at_call 29; refine (HC _).mono ?_; rintro e w1 ⟨rfl, nd, rfl⟩)
      go_quiet (fail)
      go_wp2
      go_ret2
      exact ⟨ret_two (by omega) HV.out.symm, nd + nq, by simp⟩
    · have b2 : ((S : Int) + (D : Int) == (s.size : Int)) = false := by simp; omega
      have hDr : D < rest.size := by omega
      have hDs : S + D < s.size := by omega
      have i1 : (D : Int) < (rest.size : Int) := by omega
      have i2 : (S : Int) + (D : Int) < (s.size : Int) := by omega
      have hix : ∀ wx : World, (Instr.index 9 (.string s) (.int .i64 ((S : Int) + (D : Int)))).run Try.prog wx = .ok (.int .u8 (s[S + D].toNat : Int)) wx := fun wx => by
        have e : (S : Int) + (D : Int) = ((S + D : Nat) : Int) := by omega
        rw [e, run_index_string wx 9 s .i64 _ Try.underlying9, dif_pos ⟨by omega, by omega⟩]
        simp only [Int.toNat_natCast]
      have g1 : rest.data.toList.getD D 0 = rest[D] := by simp only [List.getD]; rw [get_data rest D hDr]; rfl
      have g2 : s.data.toList.getD (S + D) 0 = s[S + D] := by simp only [List.getD]; rw [get_data s (S + D) hDs]; rfl
      by_cases hlt : s[S + D] < rest[D]
      · have d3 : s[S + D].toNat < rest[D].toNat := UInt8.lt_iff_toNat_lt.1 hlt
        have HV : Hid (cmpB rest s S D = 1) := by
          show cmpB rest s S D = 1
          unfold cmpB; rw [if_neg (by omega), if_neg e1, if_pos (.inr (by rw [g1, g2]; exact hlt))]
        clear e1 e2 g1 g2 hlt
        go_enter Try.func27, Try.ntmps27
        go_wp2_with (go_at_call 29; refine (HC _).mono ?_; rintro e w1 ⟨rfl, nd, rfl⟩)
        go_quiet (fail)
        go_wp2
        go_ret2
        exact ⟨ret_two (by omega) HV.out.symm, nd + nq, by simp⟩
      · have d3 : ¬ s[S + D].toNat < rest[D].toNat := fun g => hlt (UInt8.lt_iff_toNat_lt.2 g)
        have HV : Hid (cmpB rest s S D = -1) := by
          show cmpB rest s S D = -1
          unfold cmpB; rw [if_neg (by omega), if_neg e1, if_neg (by rw [g1, g2]; intro h; rcases h with h | h; exact e2 h; exact hlt h)]
        clear e1 e2 g1 g2 hlt
        go_enter Try.func27, Try.ntmps27
        go_wp2_with (go_at_call 29; refine (HC _).mono ?_; rintro e w1 ⟨rfl, nd, rfl⟩)
        go_quiet (fail)
        go_wp2
        go_ret2
        exact ⟨ret_two (by omega) HV.out.symm, nd + nq, by simp⟩

end Go.Proofs.Qxb6600267a
