/-
  THE LAW FnJoinMeetAbsorb: the row.
-/
import Derived.Test.Qxb6000101aRows
import Derived.Test.Qxb6000101aAbsorb
import Derived.ProofKit
import Derived.OpenShut
import Derived.ShutString
import Derived.ChangeOld
import Derived.Below
import Derived.SliceStrings
import Derived.Deep.SlicePairs
namespace Go.Proofs.Qxb6000101a.fnJoinMeetAbsorb
open Go.ChangeShapes Go.WideShapes Go.ChangeAt Go.RowKit

/-- A slice of entries that came in, opened. -/
theorem open_prs {H : Type} {enc : TypeId × Value → H} {w : World} {base fuel : Nat} {held : Bool} {a : Option Addr} {len cap : Nat} {x : DataW H × List MemPlace}
    (h : DataW.trod enc Try.prog w base (fun _ => true) held fuel 22 (Value.slice a len cap).cells.toList = some x) : ∃ es, IsPrs w a len cap es := by
  rcases Deep.open_slice_pairs Try.underlying22 Try.underlying44 (by kernel_rfl) rfl rfl (by kernel_rfl) (by kernel_rfl) h with ⟨hcs, _⟩ | ⟨ad, l, c, m, n, V0, V1, D0, D1, P0, P1, hcs, _, hl, hm, hmm, _, hcell⟩
  · simp [Value.cells] at hcs
    obtain ⟨rfl, rfl, rfl⟩ := hcs
    exact ⟨[], ⟨(fun e he => absurd he (by simp)), rfl, Nat.zero_le _, (fun _ => rfl), (fun h => absurd h (by simp))⟩⟩
  · simp [Value.cells] at hcs
    obtain ⟨rfl, rfl, rfl⟩ := hcs
    simp only [if_true] at hmm
    subst hmm
    have each : ∀ i, i < len → ∃ q : ByteArray × Int, w.cell? (ad.add (i * 2)) = some (.string q.1) ∧ w.cell? (ad.add (i * 2 + 1)) = some (.int .u64 q.2) ∧ q.1.size ≤ maxLen ∧ (Lit.int .u64 q.2).wf = true := by
      intro i hi
      obtain ⟨c0, c1, t0, t1⟩ := hcell i (by omega)
      obtain ⟨s, e0, _, hs⟩ := DataW.trod_string Try.underlying9 t0
      obtain ⟨z, e1, _, hz⟩ := DataW.trod_int Try.underlying33 t1
      simp only [List.cons.injEq, and_true] at e0 e1
      exact ⟨(s, z), by rw [c0, e0], by rw [c1, e1], hs, hz⟩
    obtain ⟨q, hq⟩ := Deep.choose_lt each
    refine ⟨(List.range len).map fun i => ⟨(q i).1, (q i).2⟩, ⟨fun e he => ?_, by simp, by simp; omega, (fun h => by cases h), fun h0 => ?_⟩⟩
    · obtain ⟨i, hi, rfl⟩ := List.mem_map.1 he
      have := hq i (List.mem_range.1 hi)
      exact ⟨this.2.2.1, this.2.2.2⟩
    · have h0' : 0 < len := by simpa using h0
      obtain ⟨b, off, spot⟩ := ad
      have hsp : spot = none := by simpa [Addr.add] using World.cell?_spot (hq 0 h0').1
      subst hsp
      refine ⟨b, off, rfl, fun j hj => ?_⟩
      have hj' : j < len := by simpa using hj
      obtain ⟨c0, c1, _, _⟩ := hq j hj'
      have e : ((List.range len).map fun i => (⟨(q i).1, (q i).2⟩ : Prs)).getD j Prs.nought = ⟨(q j).1, (q j).2⟩ := by simp [List.getD, hj']
      rw [e]
      rw [Addr.add_lit] at c0 c1
      exact ⟨c0, by rw [Nat.add_assoc]; exact c1⟩

theorem own : ownKnob Try.prog.godebug = none := by kernel_rfl
theorem laidOut : laidOutB Try.prog = true := by kernel_rfl

set_option maxRecDepth 100000 in
theorem lifted (os : Os) (started : os.Started) (H : Type) (enc : TypeId × Value → H) :
    ReturnsInHanded {} Try.checked os 7 .any (Rows.fnJoinMeetAbsorbSpec.pre6 enc Try.prog Try.f7 Rows.fnJoinMeetAbsorbRow.domain false) (Rows.fnJoinMeetAbsorbSpec.post enc Try.prog Try.f7 false true false false) := by
  refine returnsInHanded_of_change (C := Try.checked) own started (by kernel_rfl) Try.func7
    (ChangeSpec.witness6 (enc := enc) (C := Try.checked) false ⟨#[], #[.slice none 0 0, .slice none 0 0], []⟩ 8 (by kernel_rfl) (by kernel_rfl) (by kernel_rfl) (by kernel_rfl)) ?_
  intro W base args ds gs before hval0 hW hcnd _
  have hval : ∀ (j : Nat) t v, Try.f7.params[j]? = some t → args[j]? = some v → Value.okWide Try.prog W .any base t v := hval0
  have hW' := hW
  obtain ⟨p, q, hA0, hV, rfl, hfz, hnd⟩ := hW
  have hA : DataW.TrodAll enc Try.prog W 0 (fun _ => true) true Try.f7.params.toList args.toList ds p := hA0
  rw [Try.params7] at hA hval
  obtain ⟨v0, vs0, d0, ds0, p0, q0, hargs, rfl, rfl, h0, r0⟩ := trodAll_cons hA
  obtain ⟨v1, vs1, d1, ds1, p1, q1, rfl, rfl, rfl, h1, r1⟩ := trodAll_cons r0
  obtain ⟨rfl, rfl, rfl⟩ := trodAll_nil r1
  obtain rfl : args = #[v0, v1] := by cases args; simp_all
  obtain ⟨rfl, rfl⟩ := trodVars_none hV
  obtain ⟨a0, len0, cap0, rfl⟩ := okWide_slice Try.underlying22 (hval 0 22 v0 rfl rfl)
  have k0 := h0
  have lt0 : ∀ x ∈ p0, x.block < W.heap.size := by obtain ⟨m, hm⟩ := k0; exact DataW.trod_lt m _ _ _ hm
  obtain ⟨ss0, w0⟩ : ∃ ss, IsPrs W a0 len0 cap0 ss := by
    obtain ⟨fuel, hf⟩ := h0
    exact open_prs hf
  obtain ⟨a1, len1, cap1, rfl⟩ := okWide_slice Try.underlying22 (hval 1 22 v1 rfl rfl)
  have k1 := h1
  have lt1 : ∀ x ∈ p1, x.block < W.heap.size := by obtain ⟨m, hm⟩ := k1; exact DataW.trod_lt m _ _ _ hm
  obtain ⟨ss1, w1⟩ : ∃ ss, IsPrs W a1 len1 cap1 ss := by
    obtain ⟨fuel, hf⟩ := h1
    exact open_prs hf
  clear hA0 hval0
  refine (absorb7_walk a0 len0 cap0 ss0 a1 len1 cap1 ss1 W w0 w1).mono fun e W' ⟨he, bel⟩ => ?_
  subst he
  exact ⟨_, rfl, _, _, _, [], _, [], hW', trodAll_mk1 (shut_bool Try.underlying4 _), (trodAll_cons_mk (Below.trod laidOut (by kernel_rfl) (of_decide_eq_true (by kernel_rfl)) k0 bel lt0) (trodAll_cons_mk (Below.trod laidOut (by kernel_rfl) (of_decide_eq_true (by kernel_rfl)) k1 bel lt1) trodAll_mk0)), rfl, bel.frame _, fun h => by cases h⟩

theorem over : Rows.fnJoinMeetAbsorbRow.holds Try.pinned (OpenSpec.ofChange Rows.fnJoinMeetAbsorbSpec) :=
  OpenClaim.holds_of_wide 7 Try.f7 rfl rfl rfl rfl rfl rfl rfl ⟨rfl, rfl, rfl, rfl, rfl⟩ rfl rfl rfl rfl rfl (by kernel_rfl) Try.func7 (by kernel_rfl)
    (of_decide_eq_true (by kernel_rfl)) (by unfold Func.isWrapper; first | (rw [if_pos (by decide +kernel)]; kernel_rfl) | (rw [if_neg (by decide +kernel)]; exact ⟨rfl, rfl⟩))
    (fun os started H enc _ => lifted os started H enc)

end Go.Proofs.Qxb6000101a.fnJoinMeetAbsorb

namespace Go.Proofs.Qxb6000101a
/-- THE STATEMENT -/
theorem joinMeetAbsorb_proved : Rows.FnJoinMeetAbsorbSaid := fnJoinMeetAbsorb.over
end Go.Proofs.Qxb6000101a
