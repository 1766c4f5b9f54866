/-
  THE LAW FnSplitUnescapedJoinsBack: her walk, and the row.
-/
import Derived.Test.Qxb6600267aRows
import Derived.Test.Qxb6600267aSplit
import Derived.ProofKit
import Derived.OpenShut
import Derived.ShutString
import Derived.ChangeOld
import Derived.Below
namespace Go.Proofs.Qxb6600267a.fnSplitUnescapedJoinsBack
open Go.ChangeShapes Go.WideShapes Go.ChangeAt Go.RowKit
open Go.ChangeMaps (open_string shut_string)

theorem own : ownKnob Try.prog.godebug = none := by kernel_rfl

set_option maxHeartbeats 800000 in
set_option maxRecDepth 100000 in
theorem walk_small (s : ByteArray) (c : UInt8) (hs : s.size ≤ 1048576) (w : World) :
    Calls Try.prog 7 #[.string s, .int .u8 c.toNat] w fun e w' => e = .returned (.bool true) ∧ Below w.heap.size w w' := by
  obtain ⟨i0, hi, hz0, hz1, hz2⟩ := info_parts Try.info5
  go_enter Try.func7, Try.ntmps7
  go_wp2_with (first | (go_at_call 19; refine (zzsplit_any _ _ _ hs).mono ?_; rintro e w1 ⟨g, cap, ps, q, rfl, hg, hc, hcl, hb1⟩) | (go_at_call 18; go_in))
  have hsz1 := hb1.size
  have hlen : (closed c ps ++ q.data.toList).length = s.size := by rw [hcl]; simp
  have hpl : ps.length ≤ s.size := by have := closed_len c ps; simp only [List.length_append] at hlen; omega
  have HJ : ∀ k, k ≤ ps.length → (joined c (ps ++ [q]) (k + 1)).length ≤ s.size := fun k hk => by have := joined_len c ps q k hk; omega
  have HCL : Hid (closed c ps ++ q.data.toList = s.data.toList) := hcl
  clear hcl hlen
  go_loopw [6, 7] (fun v i wr => ∃ (k : Nat), k ≤ ps.length + 1 ∧ i = .int .i64 k ∧ wr.ownsRow w1.heap.size 5 1 v (joined c (ps ++ [q]) k).length ((joined c (ps ++ [q]) k).map fun b => Value.int .u8 b.toNat) ∧
      Below w1.heap.size w1 wr)
    (fun _ i _ => ps.length + 1 - (intOf i).toNat)
  case atStart => exact ⟨0, Nat.zero_le _, rfl, World.ownsRow_nil _ _ _ _, Below.refl _ _⟩
  case round =>
    obtain ⟨k, hk, rfl, hown, hnx⟩ := hrel
    have hsz := hnx.size
    by_cases hlt : k < ps.length + 1
    · have hcx : wr.cell? ⟨g, k, none⟩ = some (.string ((ps ++ [q]).getD k ByteArray.empty)) := (hnx.cell (by exact hg)).trans (hc k hlt)
      obtain ⟨x, hx⟩ : ∃ x, x = (ps ++ [q]).getD k ByteArray.empty := ⟨_, rfl⟩
      have HX : Hid (x = (ps ++ [q]).getD k ByteArray.empty) := hx
      rw [← hx] at hcx
      clear hx
      have hJ1 := HJ k (by omega)
      by_cases hk0 : k = 0
      · subst hk0
        have HN : Hid (x.data.toList = joined c (ps ++ [q]) 1) := by rw [HX.out]; simp [joined, closed, Hid]
        have hNl : x.size ≤ 1048576 := by
          have h1 : x.size = (joined c (ps ++ [q]) 1).length := by rw [← HN.out]; simp
          have h2 : (joined c (ps ++ [q]) 1).length ≤ s.size := hJ1
          omega
        clear hJ1
        have hown0 : wr.ownsRow w1.heap.size 5 1 u6 0 [] := hown
        go_wp2_with (at_builtin; refine Go.Lib.wpList_append_own_string _ rfl (.tmp 33) (.tmp 37) 36 9 rfl w1.heap.size 5 i0 Try.underlying36 Try.underlying9 hi hz0 hz1 hz2 _ _ _ rfl hown0 x rfl ?c1 ?c2 ?c3 ?_)
        case c1 => unfold maxLen; omega
        case c2 => omega
        case c3 => omega
        intro v2 w3 hown3 hgrow3 _
        have HB3 : Below w1.heap.size w1 w3 := hnx.grown hgrow3 (by omega) (fun g hg => (hown0.lt g hg).1)
        have HO3 : w3.ownsRow w1.heap.size 5 1 v2 (joined c (ps ++ [q]) 1).length ((joined c (ps ++ [q]) 1).map fun b => Value.int .u8 b.toNat) := by
          rw [← HN.out]
          have e1 : x.data.toList.length = x.size := by simp
          rw [e1]; simpa [Go.Lib.strCells] using hown3
        clear hown3 hgrow3 hown0 hown hnx
        go_wp2
        go_roundw
        case rel => first | exact ⟨1, by omega, rfl, HO3, HB3⟩ | ((repeat apply Exists.intro); exact ⟨⟨1, by omega, rfl, HO3, HB3⟩, rfl⟩)
        case measure => simp [intOf]
      · have hkp : 0 < k := by omega
        have HN : Hid (joined c (ps ++ [q]) k ++ [c] ++ x.data.toList = joined c (ps ++ [q]) (k + 1)) := by
          have := joined_next c (ps ++ [q]) k (by simp; omega) hkp
          rw [← HX.out] at this
          exact this
        have hNl := congrArg List.length HN.out
        simp only [List.length_append, List.length_cons, List.length_nil, Array.length_toList] at hNl
        have hxs : x.data.size = x.size := rfl
        rw [hxs] at hNl
        have hNb : (joined c (ps ++ [q]) k).length + 1 + x.size ≤ 1048576 := by omega
        have HL : Hid ((joined c (ps ++ [q]) k).length + 1 + x.size = (joined c (ps ++ [q]) (k + 1)).length) := hNl
        clear hxs hNl hJ1
        go_wp2_with (at_builtin; refine wpList_append_own _ rfl (.tmp 29) (.tmp 31) 36 rfl w1.heap.size 5 i0 (.int .u8 0) 1 1 Try.underlying36 hi hz0 hz1 hz2 rfl (by decide) _ _ _ rfl (hown.alloc _) ⟨wr.heap.size, 0, none⟩ 1 1 [.int .u8 c.toNat] rfl rfl (cell_one_new _ _ _) ?c1 ?c2 ?c3 ?c4 ?_)
        case c1 => intro u hu; simp at hu; subst hu; rfl
        case c2 => unfold maxLen; omega
        case c3 => omega
        case c4 => simp; omega
        intro v' w2 hown' hgrow _
        have HB2 : Below w1.heap.size w1 w2 := (hnx.alloc (by omega) _).grown hgrow (by simp; omega) (fun g hg => (hown.lt g hg).1)
        have hcx2 : w2.cell? ⟨g, k, none⟩ = some (.string x) := by
          rw [HX.out]; exact (HB2.cell (by exact hg)).trans (hc k hlt)
        have hsz2 := HB2.size
        clear hgrow hown hnx hcx
        go_wp2_with (at_builtin; refine Go.Lib.wpList_append_own_string _ rfl (.tmp 33) (.tmp 37) 36 9 rfl w1.heap.size 5 i0 Try.underlying36 Try.underlying9 hi hz0 hz1 hz2 _ _ _ rfl hown' x rfl ?d1 ?d2 ?d3 ?_)
        case d1 => unfold maxLen; omega
        case d2 => omega
        case d3 => omega
        intro v2 w3 hown3 hgrow3 _
        have HB3 : Below w1.heap.size w1 w3 := HB2.grown hgrow3 (by omega) (fun g hg => (hown'.lt g hg).1)
        have HO3 : w3.ownsRow w1.heap.size 5 1 v2 (joined c (ps ++ [q]) (k + 1)).length ((joined c (ps ++ [q]) (k + 1)).map fun b => Value.int .u8 b.toNat) := by
          rw [← HL.out, ← HN.out]; simpa [Go.Lib.strCells] using hown3
        clear hown3 hgrow3 hown' HB2
        go_wp2
        go_roundw
        case rel => first | exact ⟨k + 1, by omega, by go_num, HO3, HB3⟩ | ((repeat apply Exists.intro); exact ⟨⟨k + 1, by omega, by go_num, HO3, HB3⟩, rfl⟩)
        case measure => simp [intOf]; omega
    · have hke : k = ps.length + 1 := by omega
      have HS : Hid (s = ⟨(joined c (ps ++ [q]) k).toArray⟩) := by
        show s = _
        rw [hke, joined_last, HCL.out]
      have hcv := convert_owned hown
      rw [← HS.out] at hcv
      have hB : Below w.heap.size w wr := hb1.trans (hnx.mono (by omega))
      clear hown hnx hc hb1
      go_wp2
      go_ret
      exact ⟨by simp, hB⟩

theorem walk (s : ByteArray) (a1 : Int) (w1 : (Lit.int .u8 a1).wf = true) (w : World) :
    Calls Try.prog 7 #[.string s, .int .u8 a1] w fun e w' => e = .returned (.bool true) ∧ Below w.heap.size w w' := by
  by_cases hs : s.size ≤ 1048576
  · obtain ⟨c, rfl⟩ : ∃ c : UInt8, a1 = c.toNat := by
      have hb := bounds_u8 w1
      refine ⟨UInt8.ofNat a1.toNat, ?_⟩
      rw [UInt8.toNat_ofNat']
      omega
    exact walk_small s c hs w
  · go_enter Try.func7, Try.ntmps7
    go_wp2
    go_ret
    exact ⟨rfl, Below.refl _ _⟩

set_option maxRecDepth 100000 in
theorem lifted (os : Os) (started : os.Started) (H : Type) (enc : TypeId × Value → H) :
    ReturnsInHanded {} Try.checked os 7 .any (Rows.fnSplitUnescapedJoinsBackSpec.pre6 enc Try.prog Try.f7 Rows.fnSplitUnescapedJoinsBackRow.domain false) (Rows.fnSplitUnescapedJoinsBackSpec.post enc Try.prog Try.f7 false true false false) := by
  refine returnsInHanded_of_change (C := Try.checked) own started (by kernel_rfl) Try.func7
    (ChangeSpec.witness6 (enc := enc) (C := Try.checked) false ⟨#[], #[.string ByteArray.empty, .int .u8 0], []⟩ 8 (by kernel_rfl) (by kernel_rfl) (by kernel_rfl) (by kernel_rfl)) ?_
  intro W base args ds gs before hval0 hW hcnd _
  have hval : ∀ (j : Nat) t v, Try.f7.params[j]? = some t → args[j]? = some v → Value.okWide Try.prog W .any base t v := hval0
  have hW' := hW
  obtain ⟨p, q, hA0, hV, rfl, hfz, hnd⟩ := hW
  have hA : DataW.TrodAll enc Try.prog W 0 (fun _ => true) true Try.f7.params.toList args.toList ds p := hA0
  rw [Try.params7] at hA hval
  obtain ⟨v0, vs0, d0, ds0, p0, q0, hargs, rfl, rfl, h0, r0⟩ := trodAll_cons hA
  obtain ⟨v1, vs1, d1, ds1, p1, q1, rfl, rfl, rfl, h1, r1⟩ := trodAll_cons r0
  obtain ⟨rfl, rfl, rfl⟩ := trodAll_nil r1
  obtain rfl : args = #[v0, v1] := by cases args; simp_all
  obtain ⟨rfl, rfl⟩ := trodVars_none hV
  obtain ⟨a0, rfl, rfl, rfl, w0⟩ := open_string Try.underlying9 (hval 0 9 v0 rfl rfl) h0
  obtain ⟨a1, rfl, rfl, rfl, w1⟩ := open_int Try.underlying5 (hval 1 5 v1 rfl rfl) h1
  clear hA0 hval0
  refine (walk a0 a1 w1 W).mono fun e W' ⟨he, bel⟩ => ?_
  subst he
  exact ⟨_, rfl, _, _, _, [], _, [], hW', trodAll_mk1 (shut_bool Try.underlying4 _), (trodAll_cons_mk (shut_string Try.underlying9 w0) (trodAll_cons_mk (shut_int Try.underlying5 w1) trodAll_mk0)), rfl, bel.frame _, fun h => by cases h⟩

theorem over : Rows.fnSplitUnescapedJoinsBackRow.holds Try.pinned (OpenSpec.ofChange Rows.fnSplitUnescapedJoinsBackSpec) :=
  OpenClaim.holds_of_wide 7 Try.f7 rfl rfl rfl rfl rfl rfl rfl ⟨rfl, rfl, rfl, rfl, rfl⟩ rfl rfl rfl rfl rfl (by kernel_rfl) Try.func7 (by kernel_rfl)
    (of_decide_eq_true (by kernel_rfl)) (by unfold Func.isWrapper; first | (rw [if_pos (by decide +kernel)]; kernel_rfl) | (rw [if_neg (by decide +kernel)]; exact ⟨rfl, rfl⟩))
    (fun os started H enc _ => lifted os started H enc)

end Go.Proofs.Qxb6600267a.fnSplitUnescapedJoinsBack

namespace Go.Proofs.Qxb6600267a
/-- THE STATEMENT -/
theorem splitUnescapedJoinsBack_proved : Rows.FnSplitUnescapedJoinsBackSaid := fnSplitUnescapedJoinsBack.over
end Go.Proofs.Qxb6600267a
