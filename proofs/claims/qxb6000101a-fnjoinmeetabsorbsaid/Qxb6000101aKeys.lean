/-
  THE WALK OF causalB1AddKeys: the different keys, in order.
-/
import Derived.Test.Qxb6000101aMk
namespace Go.Proofs.Qxb6000101a
open Go.RowKit Go.Maps Go.WideMaps

noncomputable abbrev R4 : Value → Option (DataW Unit × List MemPlace) := plainElem (H := Unit) Try.prog 4
noncomputable def tru : DataW Unit := .lit (.bool true)
noncomputable def fal : DataW Unit := .lit (.bool false)

/-- The map of the keys that were seen. -/
def SetD (D : DataW Unit) (ks : List ByteArray) : Prop := (∀ k, has D k = true ↔ ∃ s ∈ ks, k = keyL s) ∧ ∀ k z, has D k = true → D.atKey k z = tru

theorem SetD.empty : SetD (.map []) [] :=
  ⟨fun k => Iff.intro (fun h => by cases h) (fun h => by obtain ⟨s, hs, _⟩ := h; cases hs), fun k z h => by cases h⟩

/-- Is x among the keys? -/
def memB (ks : List ByteArray) (x : ByteArray) : Bool := ks.any fun t => t.data.toList == x.data.toList
theorem memB_iff (ks : List ByteArray) (x : ByteArray) : memB ks x = true ↔ x ∈ ks := by
  unfold memB
  rw [List.any_eq_true]
  constructor
  · rintro ⟨t, ht, e⟩
    have : t = x := keyL_eq (keyL_inj.2 (by simpa using e))
    exact this ▸ ht
  · exact fun h => ⟨x, h, by simp⟩
theorem SetD.put {D : DataW Unit} {ks : List ByteArray} (h : SetD D ks) (hD : IsMap D) (x : ByteArray) : SetD (D.put (keyL x) tru) (ks ++ [x]) := by
  refine ⟨fun k => ?_, fun k z hk => ?_⟩
  · by_cases e : k = keyL x
    · subst e
      rw [has_put_same hD (keyL_is x)]
      exact ⟨fun _ => ⟨x, by simp, rfl⟩, fun _ => rfl⟩
    · rw [has_put_other e, h.1 k]
      refine ⟨fun ⟨s, hs, e1⟩ => ⟨s, by simp [hs], e1⟩, fun ⟨s, hs, e1⟩ => ⟨s, ?_, e1⟩⟩
      rcases List.mem_append.1 hs with h1 | h1
      · exact h1
      · exact absurd (by rw [e1, List.mem_singleton.1 h1]) e
  · by_cases e : k = keyL x
    · subst e
      exact atKey_put_same hD (keyL_is x) _ _
    · rw [has_put_other e] at hk
      rw [atKey_put_other e]; exact h.2 k z hk

theorem SetD.at {D : DataW Unit} {ks : List ByteArray} (h : SetD D ks) (x : ByteArray) : has D (keyL x) = memB ks x := by
  cases hm : memB ks x with
  | true => exact (h.1 _).2 ⟨x, (memB_iff _ _).1 hm, rfl⟩
  | false =>
    cases hh : has D (keyL x) with
    | false => rfl
    | true =>
      obtain ⟨s, hs, e⟩ := (h.1 _).1 hh
      have := (memB_iff ks x).2 (keyL_eq e ▸ hs)
      rw [hm] at this; cases this

theorem plainElem_bool_inv {v : Value} {x : Bool} {ps : List MemPlace} (h : R4 v = some (.lit (.bool x), ps)) : v = .bool x := by
  unfold R4 plainElem at h
  rw [Try.underlying4] at h
  cases v <;> simp at h
  rw [h.1]

theorem seen_look {w : World} {S n : Nat} {D : DataW Unit} {ks : List ByteArray} (hown : w.ownsMap Try.prog 9 R4 S n D) (hD : SetD D ks) (x : ByteArray) (hx : x.size ≤ maxLen) :
    (Instr.lookup 29 (.map (some S)) (.string x) false).run Try.prog w = .ok (.bool (memB ks x)) w := by
  obtain ⟨v, ps, hrun, hv⟩ := hown.lookup law9 Try.underlying29 (zero4 w) (zd := fal) (zp := []) (plainElem_bool Try.underlying4 false) (keyL_ok x hx)
  rw [hrun]
  have e := hD.at x
  cases hh : has D (keyL x) with
  | true =>
    rw [hD.2 _ _ hh] at hv
    rw [plainElem_bool_inv (x := true) hv, ← e, hh]
  | false =>
    rw [atKey_of_not_has hh] at hv
    rw [plainElem_bool_inv (x := false) hv, ← e, hh]

/-! ### The plain list -/
def addK (ks : List ByteArray) (x : ByteArray) : List ByteArray := if memB ks x then ks else ks ++ [x]
def addAll (ks xs : List ByteArray) : List ByteArray := xs.foldl addK ks

theorem addAll_snoc (ks xs : List ByteArray) (x : ByteArray) : addAll ks (xs ++ [x]) = addK (addAll ks xs) x := by simp [addAll, List.foldl_append]
theorem addAll_mem (ks xs : List ByteArray) (s : ByteArray) : s ∈ addAll ks xs ↔ s ∈ ks ∨ s ∈ xs := by
  induction xs generalizing ks with
  | nil => simp [addAll]
  | cons x xs ih =>
    show s ∈ addAll (addK ks x) xs ↔ _
    rw [ih]
    unfold addK
    split
    · rename_i hx0
      have hx := (memB_iff _ _).1 hx0
      constructor
      · rintro (h | h)
        · exact .inl h
        · exact .inr (by simp [h])
      · rintro (h | h)
        · exact .inl h
        · rcases List.mem_cons.1 h with rfl | h
          · exact .inl hx
          · exact .inr h
    · simp only [List.mem_append, List.mem_cons, List.not_mem_nil, or_false]
      constructor
      · rintro ((h | h) | h)
        · exact .inl h
        · exact .inr (.inl h)
        · exact .inr (.inr h)
      · rintro (h | h | h)
        · exact .inl (.inl h)
        · exact .inl (.inr h)
        · exact .inr h
theorem addAll_nodup (ks xs : List ByteArray) (h : ks.Nodup) : (addAll ks xs).Nodup := by
  induction xs generalizing ks with
  | nil => exact h
  | cons x xs ih =>
    show (addAll (addK ks x) xs).Nodup
    apply ih
    unfold addK
    split
    · exact h
    · rename_i hx
      rw [List.nodup_append]
      refine ⟨h, by simp, fun a ha b hb => ?_⟩
      rw [List.mem_singleton] at hb
      subst hb
      exact fun e => hx ((memB_iff _ _).2 (e ▸ ha))
theorem addAll_len (ks xs : List ByteArray) : (addAll ks xs).length ≤ ks.length + xs.length := by
  induction xs generalizing ks with
  | nil => simp [addAll]
  | cons x xs ih =>
    show (addAll (addK ks x) xs).length ≤ _
    have h1 := ih (addK ks x)
    have h2 : (addK ks x).length ≤ ks.length + 1 := by unfold addK; split <;> simp
    simp only [List.length_cons]
    omega

def keysOf (es : List Prs) : List ByteArray := es.map (·.k)

/-- The strings as they lie in memory. -/
def cellsS (ks : List ByteArray) : List Value := ks.map Value.string
theorem cellsS_snoc (ks : List ByteArray) (x : ByteArray) : cellsS (ks ++ [x]) = cellsS ks ++ [.string x] := by simp [cellsS]

def AKRel (ks : List ByteArray) (es : List Prs) (S : Nat) (w : World) (v0 v7 : Value) (wr : World) : Prop :=
  ∃ (k : Nat) (D : DataW Unit) (L : List ByteArray), k ≤ es.length ∧ v7 = .int .i64 k ∧ L = addAll ks (keysOf (es.take k)) ∧ wr.ownsRow (S + 1) 9 1 v0 L.length (cellsS L) ∧ wr.ownsMap Try.prog 9 R4 S L.length D ∧ SetD D L ∧ Below S w wr

theorem cell_one_new (w : World) (a : Value) (t : TypeId) : ∀ j u, [a][j]? = some u → (w.alloc (.cells #[a] t)).cell? ((⟨w.heap.size, 0, none⟩ : Addr).add j) = some u := by
  intro j u hj
  match j, hj with
  | 0, hj => simp at hj; subst hj; simp [Addr.add]
  | j + 1, hj => simp at hj

set_option maxHeartbeats 1600000 in
set_option maxRecDepth 100000 in
theorem addKeys15_any {wo w : World} {v : Value} {S : Nat} {D : DataW Unit} {ks : List ByteArray} {a : Option Addr} {len cap : Nat} {es : List Prs}
    (hrow : w.ownsRow (S + 1) 9 1 v ks.length (cellsS ks)) (hset : w.ownsMap Try.prog 9 R4 S ks.length D) (hD : SetD D ks) (hes : IsPrs wo a len cap es) (ho : Below wo.heap.size wo w) (hS : wo.heap.size ≤ S)
    (hk : ks.length ≤ 65536) (hn : es.length ≤ 65536) :
    Calls Try.prog 15 #[v, .map (some S), .slice a len cap] w fun e w' => ∃ v' D', e = .returned v' ∧ w'.ownsRow (S + 1) 9 1 v' (addAll ks (keysOf es)).length (cellsS (addAll ks (keysOf es))) ∧
      w'.ownsMap Try.prog 9 R4 S (addAll ks (keysOf es)).length D' ∧ SetD D' (addAll ks (keysOf es)) ∧ Below S w w' := by
  obtain ⟨i0, hi, hz0, hz1, hz2⟩ := info_parts Try.info9
  obtain ⟨hok, rfl, _, _, hr⟩ := hes
  have HR : Hid (0 < es.length → ∃ b off, a = some ⟨b, off, none⟩ ∧ PrsCells wo b off es) := hr
  have HOK : Hid (PrsOk es) := hok
  have HD0 : Hid (SetD D ks) := hD
  clear hr hok hD
  go_enter Try.func15, Try.ntmps15
  go_wp2
  go_loopw [0, 7] (fun v0 v7 wr => AKRel ks es S w v0 v7 wr) (fun _ i _ => es.length - (intOf i).toNat)
  case atStart => exact ⟨0, D, ks, Nat.zero_le _, rfl, rfl, hrow, hset, HD0.out, Below.refl _ _⟩
  case round =>
    obtain ⟨k, D, L, hkk, rfl, hL, hown, hmap, hD, hnx⟩ := hrel
    have HL : Hid (L = addAll ks (keysOf (es.take k))) := hL
    have HD : Hid (SetD D L) := hD
    have hLl : L.length ≤ 131072 := by
      have := addAll_len ks (keysOf (es.take k))
      rw [← hL] at this
      simp only [keysOf, List.length_map, List.length_take] at this
      omega
    clear hL hD hrow hset HD0
    by_cases hlt : k < es.length
    · obtain ⟨b, off, rfl, hc⟩ := HR.out (by omega)
      obtain ⟨hcx, _⟩ := hc.later (ho.trans (hnx.mono hS)) k hlt
      obtain ⟨hxs, _⟩ := HOK.out.at k hlt
      obtain ⟨x, hx⟩ : ∃ x, x = (es.getD k Prs.nought).k := ⟨_, rfl⟩
      rw [← hx] at hcx hxs
      have HNEXT : Hid (addAll ks (keysOf (es.take (k + 1))) = addK L x) := by
        show addAll ks (keysOf (es.take (k + 1))) = addK L x
        rw [take_snoc es k hlt, HL.out, hx]
        simp only [keysOf, List.map_append, List.map_cons, List.map_nil]
        exact addAll_snoc _ _ _
      have hlook := seen_look hmap HD.out x hxs
      have hkey := keyL_ok x hxs
      have HIM : Hid (IsMap D) := hmap.isMap
      clear hx hc
      by_cases hm : memB L x = true
      · rw [hm] at hlook
        have HN2 : Hid (L = addAll ks (keysOf (es.take (k + 1)))) := by
          show L = _
          rw [HNEXT.out]; unfold addK; rw [if_pos hm]
        go_wp2
        go_roundw
        case rel => exact ⟨k + 1, D, L, by omega, by go_num, HN2.out, hown, hmap, HD.out, hnx⟩
        case measure => simp [intOf]; omega
      · have hmf : memB L x = false := by simpa using hm
        rw [hmf] at hlook
        have HN2 : Hid (L ++ [x] = addAll ks (keysOf (es.take (k + 1)))) := by
          show L ++ [x] = _
          rw [HNEXT.out]; unfold addK; rw [if_neg hm]
        clear hm hmf
        go_upto_region 7 with (at_mapUpdate; refine wpList_mapUpdate_own _ rfl _ _ _ 29 rfl 9 4 law9 Try.underlying29 R4 S L.length _ rfl hmap (by unfold maxLen; omega) _ _ _ rfl rfl hkey _ [] (plainElem_bool Try.underlying4 true) ?_; intro w1 hmap1 hg1)
        go_frame
        have hob : u0.ownBlock ≠ some S := fun e => by have := (hown.lt S e).1; omega
        have hSl := hmap.lt
        have hs1 := hg1.size
        have hown1 := hown.kept hg1 (.inr hob)
        have hb1 : Below S w w1 := hnx.grown hg1 (by omega) (fun j hj => by cases hj; exact Nat.le_refl _)
        clear hlook hmap
        go_wp2_with (at_builtin; refine wpList_append_own _ rfl _ _ 30 rfl (S + 1) 9 i0 (.string ByteArray.empty) 1 16 Try.underlying30 hi hz0 hz1 hz2 rfl (by decide) _ _ _ rfl (hown1.alloc _) ⟨w1.heap.size, 0, none⟩ 1 1 [.string x] rfl rfl ?c0 ?c1 ?c2 ?c3 ?c4 ?_)
        case c0 => exact cell_one_new w1 (.string x) _
        case c1 =>
          intro u hu
          simp only [List.mem_cons, List.not_mem_nil, or_false] at hu
          subst hu; rfl
        case c2 => unfold maxLen; omega
        case c3 => omega
        case c4 => simp; omega
        intro v' w2 hown' hgrow hnn
        have hsz2 := hgrow.size
        simp only [World.size_alloc] at hsz2
        have HB : Below S w w2 := (hb1.alloc (by omega) _).grown hgrow (by simp; omega) (fun g hg => by have := (hown.lt g hg).1; omega)
        have HM : w2.ownsMap Try.prog 9 R4 S (L ++ [x]).length (D.put (keyL x) tru) := by
          rw [List.length_append]
          exact (hmap1.alloc _).kept hgrow (fun e => hob e.symm)
        have HO : w2.ownsRow (S + 1) 9 1 v' (L ++ [x]).length (cellsS (L ++ [x])) := by
          rw [cellsS_snoc]; simpa using hown'
        have HSD : Hid (SetD (D.put (keyL x) tru) (L ++ [x])) := HD.out.put HIM.out x
        clear hown' hgrow hown hnx hnn hmap1 hown1
        go_wp2
        go_roundw
        case rel => first | exact ⟨k + 1, _, L ++ [x], by omega, by go_num, HN2.out, HO, HM, HSD.out, HB⟩ | ((repeat apply Exists.intro); refine ⟨?_, rfl⟩; exact ⟨k + 1, _, L ++ [x], by omega, by go_num, HN2.out, HO, HM, HSD.out, HB⟩)
        case measure => simp [intOf]; omega
    · have hke : k = es.length := by omega
      subst hke
      have HE : Hid (L = addAll ks (keysOf es)) := by
        show L = _
        rw [HL.out, List.take_length]
      go_wp2
      go_ret
      exact ⟨_, D, rfl, by rw [← HE.out]; exact hown, by rw [← HE.out]; exact hmap, by rw [← HE.out]; exact HD.out, hnx⟩

end Go.Proofs.Qxb6000101a
