/-
  THE WALK OF causalB1Mk: a version out of entries.
-/
import Derived.Test.Qxb6000101aVer
import Derived.StillTailTactics
namespace Go.Proofs.Qxb6000101a
open Go.RowKit Go.Maps Go.WideMaps

/-- A region whose head only reads and whose tail is forced, in the walk's own spelling of the draw. -/
theorem region_tail {P : Program} {id : Nat} {Q : Exit → Act → World → Prop} {a : Act} {w : World} {l : List Oper} (n : Nat) (hm : P.follows .mixedOrders = true) (hB : Region.lexTailB .any l.toArray n = true)
    (h : wpStill P l.toArray w.drew (fun a' => wpList P l.toArray Q (l.drop n) a' w.drew) (l.take n) a) : (Code.region id l.toArray true).wp P Q a w := wp_region_still_tail n hm hB h

/-- Every key of D is an entry's. -/
def Cov (D : DataW Unit) (es : List Prs) : Prop := ∀ k, has D k = true → ∃ e ∈ es, k = keyL e.k

theorem Cov.put {D : DataW Unit} {es : List Prs} (h : Cov D es) (e : Prs) (d : DataW Unit) : Cov (D.put (keyL e.k) d) (es ++ [e]) := fun k hk => by
  by_cases he : k = keyL e.k
  · exact ⟨e, by simp, he⟩
  · rw [has_put_other he] at hk
    obtain ⟨x, hx, ex⟩ := h k hk
    exact ⟨x, by simp [hx], ex⟩

theorem take_snoc (es : List Prs) (k : Nat) (hk : k < es.length) : es.take (k + 1) = es.take k ++ [es.getD k Prs.nought] := by
  rw [List.take_add_one, List.getElem?_eq_getElem hk]
  simp [List.getD, hk]

def MkRel (es : List Prs) (w : World) (v : Value) (wr : World) : Prop :=
  ∃ (k : Nat) (D : DataW Unit), k ≤ es.length ∧ v = .int .i64 k ∧ wr.ownsMap Try.prog 9 R33 w.heap.size k D ∧ Cov D (es.take k) ∧ Below w.heap.size w wr

theorem mk14_nil (w : World) : Calls Try.prog 14 #[.slice none 0 0] w fun e w' => e = .returned (.map none) ∧ w' = w := by
  have hq := fun (wx : World) (a : Option Addr) (n c : Nat) => Lib.run_eql_slice_nil (P := Try.prog) wx 22 44 a n c 0 0 Try.underlying22
  go_enter Try.func14, Try.ntmps14
  go_wp2
  go_ret
  exact ⟨rfl, rfl⟩

set_option maxHeartbeats 1600000 in
set_option maxRecDepth 100000 in
theorem mk14_row (ad : Addr) (cap : Nat) (es : List Prs) (w : World) (hn : es.length ≤ 65536) (hok : PrsOk es) (hc : 0 < es.length → ad.spot = none ∧ PrsCells w ad.block ad.off es) :
    Calls Try.prog 14 #[.slice (some ad) es.length cap] w fun e w' => ∃ D, e = .returned (.map (some w.heap.size)) ∧ w'.ownsMap Try.prog 9 R33 w.heap.size es.length D ∧ Cov D es ∧ Below w.heap.size w w' := by
  have hmm := @run_makeMap Try.prog
  have hq := fun (wx : World) (a : Option Addr) (n c : Nat) => Lib.run_eql_slice_nil (P := Try.prog) wx 22 44 a n c 0 0 Try.underlying22
  have HC : Hid (0 < es.length → ad.spot = none ∧ PrsCells w ad.block ad.off es) := hc
  have HOK : Hid (PrsOk es) := hok
  clear hc hok
  go_enter Try.func14, Try.ntmps14
  go_wp2
  go_loopw [4] (fun v wr => MkRel es w v wr) (fun i _ => es.length - (intOf i).toNat)
  case atStart => exact ⟨0, .map [], Nat.zero_le _, rfl, World.ownsMap_made _ _ _ _, (fun k h => by cases h), (Below.refl _ _).alloc (Nat.le_refl _) _⟩
  case round =>
    obtain ⟨k, D, hk, rfl, hown, hcov, hnx⟩ := hrel
    have HCOV : Hid (Cov D (es.take k)) := hcov
    clear hcov hq
    by_cases hlt : k < es.length
    · obtain ⟨b, off, spot⟩ := ad
      obtain ⟨hsp, hc0⟩ := HC.out (by omega)
      simp only at hsp hc0
      subst hsp
      obtain ⟨hcx, hcy⟩ := hc0.later hnx k hlt
      obtain ⟨hxs, hzw⟩ := HOK.out.at k hlt
      obtain ⟨⟨x, z⟩, he⟩ : ∃ e, e = es.getD k Prs.nought := ⟨_, rfl⟩
      rw [← he] at hcx hcy hxs hzw
      simp only at hcx hcy hxs hzw
      have HE : Hid ((⟨x, z⟩ : Prs) = es.getD k Prs.nought) := he
      have hkey := keyL_ok x hxs
      clear he hc0
      go_wp2
      refine region_tail 11 (by kernel_rfl) (by kernel_rfl) ?_
      simp only [List.take_succ_cons, List.take_zero, List.drop_succ_cons, List.drop_zero]
      iterate 11 still_step
      refine wpStill_nil ?_
      go_wp2_with (at_mapUpdate; refine wpList_mapUpdate_own _ rfl _ _ _ 27 rfl 9 33 law9 Try.underlying27 R33 w.heap.size k _ rfl hown (by unfold maxLen; omega) _ _ _ rfl rfl hkey _ [] (plainElem_int Try.underlying33 hzw) ?_; intro w1 hown1 hgrow1)
      go_roundw
      case rel =>
        refine ⟨k + 1, D.put (keyL x) (num z), by omega, by go_num, hown1, ?_, hnx.drew.grown hgrow1 hnx.size (fun j hj => by cases hj; exact Nat.le_refl _)⟩
        rw [take_snoc es k hlt, ← HE.out]
        exact HCOV.out.put ⟨x, z⟩ _
      case measure => simp [intOf]; omega
    · have hke : k = es.length := by omega
      subst hke
      go_wp2
      go_ret
      exact ⟨D, rfl, hown, by have := HCOV.out; rw [List.take_length] at this; exact this, hnx⟩

theorem mk14_any {w : World} {a : Option Addr} {len cap : Nat} {es : List Prs} (h : IsPrs w a len cap es) (hn : es.length ≤ 65536) :
    Calls Try.prog 14 #[.slice a len cap] w fun e w' => ∃ v D, e = .returned v ∧ IsVer w' v D 65536 ∧ Cov D es ∧ Below w.heap.size w w' := by
  obtain ⟨hok, rfl, hm, hnil, hr⟩ := h
  cases a with
  | none =>
    have e0 : es = [] := by
      rcases Nat.eq_zero_or_pos es.length with h | h
      · exact List.eq_nil_of_length_eq_zero h
      · obtain ⟨_, _, e, _⟩ := hr h; cases e
    subst e0
    have := hnil rfl
    subst this
    exact (mk14_nil w).mono fun e w' hh => ⟨.map none, .map [], hh.1, .inl ⟨rfl, rfl⟩, (fun k h => by cases h), by rw [hh.2]; exact Below.refl _ _⟩
  | some ad =>
    refine (mk14_row ad cap es w hn hok (fun h0 => ?_)).mono fun e w' hh => ?_
    · obtain ⟨b, off, e, hc⟩ := hr h0
      cases e
      exact ⟨rfl, hc⟩
    · obtain ⟨D, he, hown, hcov, hb⟩ := hh
      exact ⟨_, D, he, .inr ⟨_, rfl, hown.mono hn⟩, hcov, hb⟩

end Go.Proofs.Qxb6000101a
