/-
  VERSIONS IN PLAIN WORDS: a map from strings to uint64, nil or not; its keys, its values, its size; meet and join.
-/
import Derived.Test.Qxb6000101aBase
import Derived.Maps.Own
import Derived.Maps.OwnOps
import Derived.Maps.OwnSet
import Derived.Maps.Views
import Derived.Maps.Ext
import Derived.Maps.RangeWalk
namespace Go.Proofs.Qxb6000101a
open Go.RowKit Go.Maps Go.WideMaps
open Go.WideElems (Fit rg rd_key rg_of rd_val)

theorem law9 : Keyed Try.prog 9 := string_keyed Try.underlying9
theorem zero33 (w : World) : (zeroValue 33).run Try.prog w = .ok (.int .u64 0) w := by kernel_rfl
theorem zero4 (w : World) : (zeroValue 4).run Try.prog w = .ok (.bool false) w := by kernel_rfl

def keyL (s : ByteArray) : Lit := .string s.data.toList
theorem keyL_inj {s t : ByteArray} : keyL s = keyL t ↔ s.data.toList = t.data.toList := by simp [keyL]
theorem keyL_eq {s t : ByteArray} (h : keyL s = keyL t) : s = t := by
  have := keyL_inj.1 h
  cases s; cases t
  simp only [ByteArray.mk.injEq]
  exact Array.toList_inj.1 this
theorem keyL_ok (s : ByteArray) (h : s.size ≤ maxLen) : keyOf Try.prog 9 (.string s) = some (keyL s) := keyOf_string_mk Try.underlying9 h
theorem keyL_is (s : ByteArray) : WideAt.IsKeyLit (keyL s) := by trivial
theorem key_inv {key : Value} {kl : Lit} (h : keyOf Try.prog 9 key = some kl) : ∃ s : ByteArray, key = .string s ∧ kl = keyL s ∧ s.size ≤ maxLen := by
  have hu := Try.underlying9
  cases key <;> simp [keyOf, hu, mapKey] at h
  obtain ⟨h1, h2⟩ := h
  exact ⟨_, rfl, h2.symm, h1⟩

noncomputable abbrev R33 : Value → Option (DataW Unit × List MemPlace) := plainElem (H := Unit) Try.prog 33
noncomputable abbrev num (x : Int) : DataW Unit := .lit (.int .u64 x)

theorem wf_nonneg {x : Int} (h : (Lit.int .u64 x).wf = true) : 0 ≤ x := by
  have e0 : IntKind.u64.min = 0 := by decide
  simp only [Lit.wf, Bool.and_eq_true, decide_eq_true_eq] at h
  omega

/-- What a version holds at a key, 0 where it holds none. -/
noncomputable def val (D : DataW Unit) (k : Lit) : Int := match D.atKey k (num 0) with
  | .lit (.int _ x) => x
  | _ => 0

/-- What reads as a version. -/
structure VOk (D : DataW Unit) : Prop where
  canon : Canon D
  elem : ∀ k, has D k = true → (∃ x, (Lit.int .u64 x).wf = true ∧ ∀ z, D.atKey k z = num x) ∧ ∃ s : ByteArray, s.size ≤ maxLen ∧ k = keyL s

theorem VOk.empty : VOk (.map []) := ⟨canon_empty, fun k h => by cases h⟩

theorem val_of {D : DataW Unit} {k : Lit} {x : Int} (h : ∀ z, D.atKey k z = num x) : val D k = x := by simp [val, h]
theorem val_none {D : DataW Unit} {k : Lit} (h : has D k = false) : val D k = 0 := by simp [val, atKey_of_not_has h]

theorem VOk.at {D : DataW Unit} (h : VOk D) (k : Lit) (hk : has D k = true) (z : DataW Unit) : D.atKey k z = num (val D k) := by
  obtain ⟨⟨x, _, e⟩, _⟩ := h.elem k hk
  rw [val_of e, e]
theorem VOk.wf {D : DataW Unit} (h : VOk D) (k : Lit) : (Lit.int .u64 (val D k)).wf = true := by
  cases hk : has D k with
  | true => obtain ⟨⟨x, hw, e⟩, _⟩ := h.elem k hk; rw [val_of e]; exact hw
  | false => rw [val_none hk]; decide
theorem VOk.nonneg {D : DataW Unit} (h : VOk D) (k : Lit) : 0 ≤ val D k := wf_nonneg (h.wf k)
theorem has_of_pos {D : DataW Unit} {k : Lit} (h : 0 < val D k) : has D k = true := by
  cases hk : has D k with
  | true => rfl
  | false => rw [val_none hk] at h; omega

theorem vok_of {w : World} {b n : Nat} {D : DataW Unit} (h : w.ownsMap Try.prog 9 R33 b n D) : VOk D := by
  refine ⟨h.canon law9, ?_⟩
  obtain ⟨es', e', hs', hk'⟩ := h.canon law9
  obtain ⟨es, clock, _, F, _, rfl⟩ := h
  intro k hk
  obtain ⟨p, hp, hsame⟩ := List.any_eq_true.1 hk
  have ek : p.1 = k := WideAt.sameKey_eq hsame
  obtain ⟨x, hx, hxp⟩ := List.mem_map.1 (mem_sorted.1 hp)
  obtain ⟨y, hy⟩ := F.reads x hx
  rw [rg_of hy] at hxp
  subst hxp
  obtain ⟨s, _, es1, hss⟩ := key_inv (rd_key hy)
  obtain ⟨z, hz, hyz⟩ := rd_val hy
  obtain ⟨a, _, ez, hw⟩ := plainElem_int_inv Try.underlying33 hz
  refine ⟨⟨a, hw, fun zd => ?_⟩, s, hss, by rw [← ek]; exact es1⟩
  have e1 := DataW.map.inj e'
  have hky : WideAt.IsKeyLit y.1 := by rw [es1]; exact keyL_is s
  have hp' : y ∈ es' := by rw [← e1]; exact hp
  have := WideAt.atKey_mem zd hky (apart_of_rising hs') hp'
  rw [ek, ← e1, hyz, ez] at this
  exact this

/-- THE VALUE v IS A VERSION THAT READS AS D. -/
def IsVer (w : World) (v : Value) (D : DataW Unit) (n : Nat) : Prop := (v = .map none ∧ D = .map []) ∨ ∃ b, v = .map (some b) ∧ w.ownsMap Try.prog 9 R33 b n D

theorem IsVer.vok {w : World} {v : Value} {D : DataW Unit} {n : Nat} (h : IsVer w v D n) : VOk D := by
  rcases h with ⟨_, rfl⟩ | ⟨b, _, h⟩
  · exact VOk.empty
  · exact vok_of h

theorem IsVer.below {w w' : World} {v : Value} {D : DataW Unit} {n B : Nat} (h : IsVer w v D n) (hb : Below B w w') (hB : w.heap.size ≤ B) : IsVer w' v D n := by
  rcases h with h | ⟨b, e, hown⟩
  · exact .inl h
  · have hlt := hown.lt
    obtain ⟨es, clock, hh, r⟩ := hown
    exact .inr ⟨b, e, es, clock, by rw [hb.block b (by omega)]; exact hh, r⟩

theorem IsVer.drew {w : World} {v : Value} {D : DataW Unit} {n : Nat} (h : IsVer w v D n) : IsVer w.drew v D n := h

theorem IsVer.size_le {w : World} {v : Value} {D : DataW Unit} {n : Nat} (h : IsVer w v D n) : Maps.size D ≤ n := by
  rcases h with ⟨_, rfl⟩ | ⟨b, _, h⟩
  · exact Nat.zero_le _
  · exact h.size_le

theorem IsVer.look {w : World} {v : Value} {D : DataW Unit} {n : Nat} (h : IsVer w v D n) (s : ByteArray) (hs : s.size ≤ maxLen) :
    (Instr.lookup 27 v (.string s) false).run Try.prog w = .ok (.int .u64 (val D (keyL s))) w := by
  rcases h with ⟨rfl, rfl⟩ | ⟨b, rfl, hown⟩
  · exact look_nil false law9 Try.underlying27 (zero33 w) (keyL_ok s hs)
  · obtain ⟨c, hrun, hat, _⟩ := hown.lookup_int law9 Try.underlying27 Try.underlying33 (zero33 w) (keyL_ok s hs)
    rw [hrun]
    simp [val, hat]

theorem IsVer.look_ok {w : World} {v : Value} {D : DataW Unit} {n : Nat} (h : IsVer w v D n) (s : ByteArray) (hs : s.size ≤ maxLen) :
    (Instr.lookup 27 v (.string s) true).run Try.prog w = .ok (.tuple #[.int .u64 (val D (keyL s)), .bool (has D (keyL s))]) w := by
  rcases h with ⟨rfl, rfl⟩ | ⟨b, rfl, hown⟩
  · exact look_nil true law9 Try.underlying27 (zero33 w) (keyL_ok s hs)
  · obtain ⟨v, ps, hrun, hv⟩ := hown.look_ok law9 Try.underlying27 (zero33 w) (zd := num 0) (zp := []) (plainElem_int Try.underlying33 (by decide)) (keyL_ok s hs)
    obtain ⟨a, rfl, ha, _⟩ := plainElem_int_inv Try.underlying33 hv
    simp only [Prod.mk.injEq] at ha
    rw [hrun]
    simp [val, ha.1]

theorem IsVer.len {w : World} {v : Value} {D : DataW Unit} {n : Nat} (h : IsVer w v D n) (ty : TypeId) : (Builtin.len_ #[27] ty #[v]).run Try.prog w = .ok (.int .i64 (Maps.size D : Nat)) w := by
  rcases h with ⟨rfl, rfl⟩ | ⟨b, rfl, hown⟩
  · exact len_nil Try.underlying27 ty
  · exact hown.len Try.underlying27 ty

/-! ### How many -/
theorem nodup_le {α : Type} [DecidableEq α] : ∀ {l₁ l₂ : List α}, l₁.Nodup → (∀ x ∈ l₁, x ∈ l₂) → l₁.length ≤ l₂.length
  | [], _, _, _ => Nat.zero_le _
  | a :: l, l₂, h, hs => by
    have ha := hs a (by simp)
    have hn := List.nodup_cons.1 h
    have := nodup_le (l₂ := l₂.erase a) hn.2 (fun x hx => by
      have hne : x ≠ a := fun e => hn.1 (e ▸ hx)
      exact (List.mem_erase_of_ne hne).2 (hs x (by simp [hx])))
    rw [List.length_erase_of_mem ha] at this
    have : 0 < l₂.length := List.length_pos_of_mem ha
    simp only [List.length_cons]
    omega

/-- The keys among ks that D holds. -/
noncomputable def inD (D : DataW Unit) (s : ByteArray) : Bool := has D (keyL s)

theorem size_count {D : DataW Unit} (hc : Canon D) (ks : List ByteArray) (hd : ks.Nodup) (hcov : ∀ k, has D k = true → ∃ s ∈ ks, k = keyL s) : Maps.size D = (ks.filter (inD D)).length := by
  classical
  obtain ⟨es, rfl, hs, hk⟩ := hc
  have hn1 : (es.map (·.1)).Nodup := by
    rw [List.Nodup, List.pairwise_map]; exact apart_of_rising hs
  have hn2 : ((ks.filter (inD (.map es))).map keyL).Nodup := by
    rw [List.Nodup, List.pairwise_map]
    exact (hd.filter _).imp (fun h e => h (keyL_eq e))
  have l1 := nodup_le hn1 (l₂ := (ks.filter (inD (.map es))).map keyL) (fun x hx => by
    obtain ⟨p, hp, rfl⟩ := List.mem_map.1 hx
    have hh : has (.map es) p.1 = true := List.any_eq_true.2 ⟨p, hp, WideAt.sameKey_self (hk p hp)⟩
    obtain ⟨s, hsm, e⟩ := hcov _ hh
    exact List.mem_map.2 ⟨s, List.mem_filter.2 ⟨hsm, by unfold inD; rw [← e]; exact hh⟩, e.symm⟩)
  have l2 := nodup_le hn2 (l₂ := es.map (·.1)) (fun x hx => by
    obtain ⟨s, hsm, rfl⟩ := List.mem_map.1 hx
    have hh : has (.map es) (keyL s) = true := (List.mem_filter.1 hsm).2
    obtain ⟨p, hp, he⟩ := List.any_eq_true.1 hh
    exact List.mem_map.2 ⟨p, hp, WideAt.sameKey_eq he⟩)
  simp only [List.length_map] at l1 l2
  rw [size_eq]; omega

/-! ### Meet and join -/
def MeetD (M V O : DataW Unit) : Prop := ∀ k, has M k = decide (0 < min (val V k) (val O k)) ∧ val M k = min (val V k) (val O k)
def JoinD (J V O : DataW Unit) : Prop := ∀ k, has J k = (has V k || has O k) ∧ val J k = max (val V k) (val O k)

/-- The meet under way. -/
def MA (M V O : DataW Unit) (left : Lit → Bool) : Prop := ∀ k, has M k = (!left k && decide (0 < min (val V k) (val O k))) ∧ val M k = if left k then 0 else min (val V k) (val O k)

theorem MA.start {V O : DataW Unit} (hO : VOk O) : MA (.map []) V O (has V) := fun k => by
  refine ⟨?_, ?_⟩
  · show false = _
    cases hk : has V k with
    | true => rfl
    | false =>
      have := hO.nonneg k
      rw [val_none hk]
      simp; omega
  · show val (.map []) k = _
    rw [val_none (D := .map []) rfl]
    cases hk : has V k with
    | true => rfl
    | false =>
      have := hO.nonneg k
      rw [val_none hk]
      simp; omega

theorem val_put_same {D : DataW Unit} (hD : IsMap D) {k : Lit} (hk : WideAt.IsKeyLit k) (x : Int) : val (D.put k (num x)) k = x := val_of fun z => atKey_put_same hD hk _ z
theorem val_put_other {D : DataW Unit} {k k' : Lit} (h : k' ≠ k) (d : DataW Unit) : val (D.put k d) k' = val D k' := by simp [val, atKey_put_other h]

theorem MA.put {M V O : DataW Unit} {left : Lit → Bool} (h : MA M V O left) (hM : IsMap M) (s : ByteArray) {x : Int} (hx : x = min (val V (keyL s)) (val O (keyL s))) (hp : 0 < x) : MA (M.put (keyL s) (num x)) V O (fun z => left z && !z.sameKey (keyL s)) := fun k => by
  by_cases e : k = keyL s
  · subst e
    simp only [WideAt.sameKey_self (keyL_is s), has_put_same hM (keyL_is s), val_put_same hM (keyL_is s), ← hx]
    simp [hp]
  · simp only [sameKey_ne e, has_put_other e, val_put_other e]
    simpa using h k

theorem MA.skip {M V O : DataW Unit} {left : Lit → Bool} (h : MA M V O left) (hV : VOk V) (hO : VOk O) (s : ByteArray) (hl : left (keyL s) = true) (hp : ¬ 0 < min (val V (keyL s)) (val O (keyL s))) : MA M V O (fun z => left z && !z.sameKey (keyL s)) := fun k => by
  by_cases e : k = keyL s
  · subst e
    obtain ⟨h1, h2⟩ := h (keyL s)
    have n1 := hV.nonneg (keyL s)
    have n2 := hO.nonneg (keyL s)
    have e0 : min (val V (keyL s)) (val O (keyL s)) = 0 := by omega
    simp only [WideAt.sameKey_self (keyL_is s), e0, h1, h2, hl]
    simp
  · simp only [sameKey_ne e]
    simpa using h k

theorem MA.done {M V O : DataW Unit} {left : Lit → Bool} (h : MA M V O left) (hl : ∀ k, left k = false) : MeetD M V O := fun k => by
  have := h k
  rw [hl k] at this
  simpa using this

/-- The join under way: h and v, what the maps before this one hold. -/
def JA (J : DataW Unit) (h : Lit → Bool) (v : Lit → Int) (D : DataW Unit) (left : Lit → Bool) : Prop := ∀ k, has J k = (h k || (has D k && !left k)) ∧ val J k = if has D k && !left k then max (v k) (val D k) else v k

theorem JA.start {J D : DataW Unit} : JA J (has J) (val J) D (has D) := fun k => by
  cases has D k <;> simp

theorem JA.put {J D : DataW Unit} {h : Lit → Bool} {v : Lit → Int} {left : Lit → Bool} (hA : JA J h v D left) (hJ : IsMap J) (s : ByteArray) {x y : Int} (hl : left (keyL s) = true) (hat : ∀ zd, D.atKey (keyL s) zd = num x) (hy : y = max (val J (keyL s)) x) :
    JA (J.put (keyL s) (num y)) h v D (fun z => left z && !z.sameKey (keyL s)) := fun k => by
  by_cases e : k = keyL s
  · subst e
    have hh : has D (keyL s) = true := has_true_of_atKey hat
    obtain ⟨_, h2⟩ := hA (keyL s)
    rw [hl] at h2
    simp only [hh, Bool.not_true, Bool.and_false, Bool.false_eq_true, if_false] at h2
    simp only [WideAt.sameKey_self (keyL_is s), has_put_same hJ (keyL_is s), val_put_same hJ (keyL_is s), hh, hy, h2, val_of hat]
    simp
  · simp only [sameKey_ne e, has_put_other e, val_put_other e]
    simpa using hA k

theorem JA.done {J D : DataW Unit} {h : Lit → Bool} {v : Lit → Int} {left : Lit → Bool} (hA : JA J h v D left) (hl : ∀ k, left k = false) (hv : ∀ k, 0 ≤ v k) : ∀ k, has J k = (h k || has D k) ∧ val J k = max (v k) (val D k) := fun k => by
  have := hA k
  rw [hl k] at this
  simp only [Bool.not_false, Bool.and_true] at this
  refine ⟨this.1, ?_⟩
  rw [this.2]
  cases hk : has D k with
  | true => rfl
  | false =>
    rw [val_none hk]
    have := hv k
    simp; omega

/-! ### The absorption laws -/
/-- Two versions with the same keys and the same values are one. -/
theorem VOk.same {A B : DataW Unit} (hA : VOk A) (hB : VOk B) (h : ∀ k, has A k = has B k ∧ val A k = val B k) : A = B :=
  Maps.ext hA.canon hB.canon (fun k => (h k).1) (fun k z hk => by rw [hA.at k hk, hB.at k (by rw [← (h k).1]; exact hk), (h k).2])

theorem absorb_join {A B M X : DataW Unit} (hA : VOk A) (hX : VOk X) (hM : MeetD M A B) (hJ : JoinD X A M) : X = A := by
  refine hX.same hA fun k => ?_
  obtain ⟨m1, m2⟩ := hM k
  obtain ⟨j1, j2⟩ := hJ k
  refine ⟨?_, ?_⟩
  · rw [j1, m1]
    cases hk : has A k with
    | true => rfl
    | false => rw [val_none hk]; simp; omega
  · rw [j2, m2]; omega

theorem absorb_meet {A B J X : DataW Unit} (hJ : JoinD J A B) (hX : MeetD X A J) : ∀ k, has X k = decide (0 < val A k) ∧ val X k = val A k := fun k => by
  obtain ⟨x1, x2⟩ := hX k
  obtain ⟨_, j2⟩ := hJ k
  have e : min (val A k) (val J k) = val A k := by rw [j2]; omega
  rw [x1, x2, e]
  exact ⟨rfl, rfl⟩

end Go.Proofs.Qxb6000101a
