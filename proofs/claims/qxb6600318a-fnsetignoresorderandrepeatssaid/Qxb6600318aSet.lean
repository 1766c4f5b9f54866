/-
  THE WALK OF set: a map[string]bool that holds just the names.
-/
import Derived.Test.Qxb6600318aBase
import Derived.Maps.Own
import Derived.Maps.OwnOps
import Derived.Maps.OwnSet
import Derived.Maps.Views
import Derived.Maps.Ext
namespace Go.Proofs.Qxb6600318a
open Go.RowKit Go.Maps Go.WideMaps

/-- Is s among the names? (As Go's '==' on strings has it.) -/
def memB (ks : List ByteArray) (s : ByteArray) : Bool := ks.any fun t => t.data.toList == s.data.toList

theorem memB_snoc (ks : List ByteArray) (x s : ByteArray) : memB (ks ++ [x]) s = (memB ks s || (x.data.toList == s.data.toList)) := by simp [memB]

/-- How many different names there are. -/
def dcn (ss : List ByteArray) : Nat → Nat
  | 0 => 0
  | k + 1 => dcn ss k + if memB (ss.take k) (ss.getD k ByteArray.empty) then 0 else 1

theorem law9 : Keyed Try.prog 9 := string_keyed Try.underlying9
theorem zero4 (w : World) : (zeroValue 4).run Try.prog w = .ok (.bool false) w := by kernel_rfl

def keyL (s : ByteArray) : Lit := .string s.data.toList
def tru : DataW Unit := .lit (.bool true)
def fal : DataW Unit := .lit (.bool false)

theorem keyL_inj {s t : ByteArray} : keyL s = keyL t ↔ s.data.toList = t.data.toList := by simp [keyL]
theorem keyL_ok (s : ByteArray) (h : s.size ≤ maxLen) : keyOf Try.prog 9 (.string s) = some (keyL s) := keyOf_string_mk Try.underlying9 h
theorem keyL_is (s : ByteArray) : WideAt.IsKeyLit (keyL s) := by trivial

/-- Is the key one of the names'? -/
def memL (ks : List ByteArray) (k : Lit) : Bool := ks.any fun t => (keyL t).sameKey k

theorem memL_snoc (ks : List ByteArray) (x : ByteArray) (k : Lit) : memL (ks ++ [x]) k = (memL ks k || (keyL x).sameKey k) := by simp [memL]
theorem same_keyL (t s : ByteArray) : (keyL t).sameKey (keyL s) = (t.data.toList == s.data.toList) := by
  by_cases e : t.data.toList = s.data.toList
  · rw [show keyL s = keyL t from keyL_inj.2 e.symm, WideAt.sameKey_self (keyL_is t), e]; simp
  · rw [sameKey_ne (fun g => e (keyL_inj.1 g))]; symm; simpa using e
theorem memL_keyL (ks : List ByteArray) (s : ByteArray) : memL ks (keyL s) = memB ks s := by simp [memL, memB, same_keyL]

/-- What the map reads as. -/
def SetD (D : DataW Unit) (ks : List ByteArray) : Prop := (∀ k, Maps.has D k = memL ks k) ∧ (∀ k z, D.atKey k z = if memL ks k then tru else z)

theorem SetD.put {D : DataW Unit} {ks : List ByteArray} (h : SetD D ks) (hD : IsMap D) (x : ByteArray) : SetD (D.put (keyL x) tru) (ks ++ [x]) := by
  refine ⟨fun k => ?_, fun k z => ?_⟩
  · rw [memL_snoc]
    by_cases e : k = keyL x
    · rw [e, has_put_same hD (keyL_is x), WideAt.sameKey_self (keyL_is x), Bool.or_true]
    · rw [has_put_other e, h.1 k, sameKey_ne (fun g => e g.symm), Bool.or_false]
  · rw [memL_snoc]
    by_cases e : k = keyL x
    · rw [e, atKey_put_same hD (keyL_is x), WideAt.sameKey_self (keyL_is x), Bool.or_true]; rfl
    · rw [atKey_put_other e, h.2 k z, sameKey_ne (fun g => e g.symm), Bool.or_false]

theorem SetD.empty : SetD (.map []) [] := ⟨fun _ => rfl, fun _ _ => rfl⟩

/-- BLOCK b IS THE SET OF THE NAMES ks. -/
def IsSet (w : World) (b : Nat) (ks : List ByteArray) : Prop := ∃ D, w.ownsMap Try.prog 9 (plainElem (H := Unit) Try.prog 4) b ks.length D ∧ SetD D ks ∧ Maps.size D = dcn ks ks.length

theorem plainElem_bool_inv {v : Value} {x : Bool} {ps : List MemPlace} (h : plainElem (H := Unit) Try.prog 4 v = some (.lit (.bool x), ps)) : v = .bool x := by
  unfold plainElem at h
  rw [Try.underlying4] at h
  cases v <;> simp at h
  rw [h.1]

theorem IsSet.look {w : World} {b : Nat} {ks : List ByteArray} (h : IsSet w b ks) (s : ByteArray) (hs : s.size ≤ maxLen) :
    (Instr.lookup 36 (.map (some b)) (.string s) true).run Try.prog w = .ok (.tuple #[.bool (memB ks s), .bool (memB ks s)]) w := by
  obtain ⟨D, hown, hD, _⟩ := h
  obtain ⟨v, ps, hrun, hv⟩ := hown.look_ok law9 Try.underlying36 (zero4 w) (zd := fal) (zp := []) (plainElem_bool Try.underlying4 false) (keyL_ok s hs)
  rw [hD.2, memL_keyL] at hv
  rw [hrun, hD.1, memL_keyL]
  cases e : memB ks s with
  | true => rw [e] at hv; rw [plainElem_bool_inv (x := true) hv]
  | false => rw [e] at hv; rw [plainElem_bool_inv (x := false) hv]

theorem IsSet.len {w : World} {b : Nat} {ks : List ByteArray} (h : IsSet w b ks) (ty : TypeId) : (Builtin.len_ #[36] ty #[.map (some b)]).run Try.prog w = .ok (.int .i64 (dcn ks ks.length : Nat)) w := by
  obtain ⟨D, hown, _, hs⟩ := h
  rw [← hs]; exact hown.len Try.underlying36 ty

theorem IsSet.below {w w' : World} {B b : Nat} {ks : List ByteArray} (h : IsSet w b ks) (hb : Below B w w') (hB : b < B) : IsSet w' b ks := by
  obtain ⟨D, ⟨es, clock, hh, r⟩, hD⟩ := h
  exact ⟨D, ⟨es, clock, by rw [hb.block b hB]; exact hh, r⟩, hD⟩

theorem IsSet.lt {w : World} {b : Nat} {ks : List ByteArray} (h : IsSet w b ks) : b < w.heap.size := by
  obtain ⟨D, hown, _⟩ := h
  exact hown.lt

/-- Two sets of the same names are of one size. -/
theorem IsSet.same {w w' : World} {b b' : Nat} {ks ks' : List ByteArray} (h : IsSet w b ks) (h' : IsSet w' b' ks') (he : ∀ k, memL ks k = memL ks' k) : dcn ks ks.length = dcn ks' ks'.length := by
  obtain ⟨D, hown, hD, hs⟩ := h
  obtain ⟨D', hown', hD', hs'⟩ := h'
  have e : D = D' := Maps.ext (hown.canon law9) (hown'.canon law9) (fun k => by rw [hD.1, hD'.1, he]) (fun k z _ => by rw [hD.2, hD'.2, he])
  rw [← hs, ← hs', e]

theorem take_succ (ss : List ByteArray) (k : Nat) (hk : k < ss.length) : ss.take (k + 1) = ss.take k ++ [ss.getD k ByteArray.empty] := by
  rw [List.take_add_one, List.getElem?_eq_getElem hk]
  simp [List.getD, hk]

theorem dcn_take (ss : List ByteArray) (m : Nat) : ∀ k, k ≤ m → m ≤ ss.length → dcn (ss.take m) k = dcn ss k := by
  intro k
  induction k with
  | zero => intro _ _; rfl
  | succ k ih =>
    intro hk hm
    have e1 : (ss.take m).take k = ss.take k := by rw [List.take_take, Nat.min_eq_left (by omega)]
    have e2 : (ss.take m).getD k ByteArray.empty = ss.getD k ByteArray.empty := by
      simp only [List.getD, List.getElem?_take]; rw [if_pos (by omega)]
    simp only [dcn]
    rw [ih (by omega) hm, e1, e2]

/-- One name more. -/
theorem dcn_next {w : World} {b : Nat} {D : DataW Unit} {n : Nat} (ss : List ByteArray) (k : Nat) (hown : w.ownsMap Try.prog 9 (plainElem (H := Unit) Try.prog 4) b n D) (hD : SetD D (ss.take k)) (hs : Maps.size D = dcn ss k) :
    Maps.size (D.put (keyL (ss.getD k ByteArray.empty)) tru) = dcn ss (k + 1) := by
  rw [size_put (hown.tidy law9), hD.1, memL_keyL, hs]
  simp only [dcn]
  split <;> simp

theorem make36 (v : Int) (w : World) : (Instr.makeMap 36 (some (.int .i64 v))).run Try.prog w = .ok (.map (some w.heap.size)) (w.alloc (.map #[] 0)) := by
  unfold Instr.makeMap
  simp [run_underlying Try.underlying36, asInt, asIntOf, Result.andThen]

set_option maxHeartbeats 800000 in
set_option maxRecDepth 100000 in
theorem set19_row (g c : Nat) (ss : List ByteArray) (w : World) (hn : ss.length ≤ 1048576) (hsz : ∀ s ∈ ss, s.size ≤ maxLen) (hg : g < w.heap.size)
    (hc : ∀ j, j < ss.length → w.cell? ⟨g, j, none⟩ = some (.string (ss.getD j ByteArray.empty))) :
    Calls Try.prog 19 #[.slice (some ⟨g, 0, none⟩) ss.length c] w fun e w' => ∃ b, e = .returned (.map (some b)) ∧ IsSet w' b ss ∧ w.heap.size ≤ b ∧ Below w.heap.size w w' := by
  have hmm := make36
  go_enter Try.func19, Try.ntmps19
  go_wp2
  go_loopw [11] (fun i wr => ∃ (k : Nat) (D : DataW Unit), k ≤ ss.length ∧ i = .int .i64 k ∧ wr.ownsMap Try.prog 9 (plainElem (H := Unit) Try.prog 4) w.heap.size k D ∧ SetD D (ss.take k) ∧ Maps.size D = dcn ss k ∧ Below w.heap.size w wr)
    (fun i _ => ss.length - (intOf i).toNat)
  case atStart => exact ⟨0, .map [], Nat.zero_le _, rfl, World.ownsMap_made _ _ _ _, SetD.empty, rfl, (Below.refl _ _).alloc (Nat.le_refl _) _⟩
  case round =>
    obtain ⟨k, D, hk, rfl, hown, hD, hs, hnx⟩ := hrel
    have HD : Hid (SetD D (ss.take k)) := hD
    have HS : Hid (Maps.size D = dcn ss k) := hs
    clear hD hs
    by_cases hlt : k < ss.length
    · have hcx : wr.cell? ⟨g, k, none⟩ = some (.string (ss.getD k ByteArray.empty)) := (hnx.cell (by exact hg)).trans (hc k hlt)
      obtain ⟨x, hx⟩ : ∃ x, x = ss.getD k ByteArray.empty := ⟨_, rfl⟩
      rw [← hx] at hcx
      have hxs : x.size ≤ maxLen := by
        rw [hx, List.getD, List.getElem?_eq_getElem hlt]; exact hsz _ (List.getElem_mem hlt)
      have hkey := keyL_ok x hxs
      have HX : Hid (x = ss.getD k ByteArray.empty) := hx
      clear hx hc
      go_wp2_with (at_mapUpdate; refine wpList_mapUpdate_own _ rfl _ _ _ 36 rfl 9 4 law9 Try.underlying36 (plainElem (H := Unit) Try.prog 4) w.heap.size k _ rfl hown (by unfold maxLen; omega) _ _ _ rfl rfl hkey _ [] (plainElem_bool Try.underlying4 true) ?_; intro w1 hown1 hgrow1)
      go_roundw
      case rel =>
        refine ⟨k + 1, D.put (keyL x) tru, by omega, by go_num, hown1, ?_, ?_, hnx.grown hgrow1 hnx.size (fun j hj => by cases hj; exact Nat.le_refl _)⟩
        · rw [take_succ ss k hlt, ← HX.out]; exact HD.out.put hown.isMap x
        · rw [HX.out]; exact dcn_next ss k hown HD.out HS.out
      case measure => simp [intOf]; omega
    · have hke : k = ss.length := by omega
      subst hke
      go_wp2
      go_ret
      exact ⟨w.heap.size, rfl, ⟨D, hown, by have := HD.out; rw [List.take_length] at this; exact this, HS.out⟩, Nat.le_refl _, hnx⟩

set_option maxRecDepth 100000 in
theorem set19_none (a : Option Addr) (c : Nat) (w : World) :
    Calls Try.prog 19 #[.slice a 0 c] w fun e w' => ∃ b, e = .returned (.map (some b)) ∧ IsSet w' b [] ∧ w.heap.size ≤ b ∧ Below w.heap.size w w' := by
  have hmm := make36
  go_enter Try.func19, Try.ntmps19
  go_wp2
  refine wp_loop_rounds 1 ?_
  rw [rounds_succ]
  go_wp2
  go_ret
  exact ⟨w.heap.size, rfl, ⟨.map [], World.ownsMap_made _ _ _ _, SetD.empty, rfl⟩, Nat.le_refl _, (Below.refl _ _).alloc (Nat.le_refl _) _⟩

theorem set19_any {w : World} {a : Option Addr} {c : Nat} {ss : List ByteArray} (h : OwnStrs w a ss) (hn : ss.length ≤ 1048576) (hsz : ∀ s ∈ ss, s.size ≤ maxLen) :
    Calls Try.prog 19 #[.slice a ss.length c] w fun e w' => ∃ b, e = .returned (.map (some b)) ∧ IsSet w' b ss ∧ w.heap.size ≤ b ∧ Below w.heap.size w w' := by
  by_cases h0 : 0 < ss.length
  · obtain ⟨g, rfl, hg, hc⟩ := h h0
    exact set19_row g c ss w hn hsz hg hc
  · have e : ss = [] := List.eq_nil_of_length_eq_zero (by omega)
    subst e
    exact set19_none a c w

theorem zzset16_any {w : World} {a : Option Addr} {c : Nat} {ss : List ByteArray} (h : OwnStrs w a ss) (hn : ss.length ≤ 1048576) (hsz : ∀ s ∈ ss, s.size ≤ maxLen) :
    Calls Try.prog 16 #[.slice a ss.length c] w fun e w' => ∃ b, e = .returned (.map (some b)) ∧ IsSet w' b ss ∧ w.heap.size ≤ b ∧ Below w.heap.size w w' := by
  have HC := set19_any (c := c) h hn hsz
  clear h hn hsz
  go_enter Try.func16, Try.ntmps16
  go_wp2_with (go_at_call 19; refine HC.mono ?_; rintro e w1 ⟨b, rfl, h1, h2, h3⟩)
  go_ret
  exact ⟨b, rfl, h1, h2, h3⟩

end Go.Proofs.Qxb6600318a
