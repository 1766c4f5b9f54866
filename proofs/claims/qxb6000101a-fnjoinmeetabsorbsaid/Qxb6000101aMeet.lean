/-
  THE WALK OF Version.Meet.
-/
import Derived.Test.Qxb6000101aMk
namespace Go.Proofs.Qxb6000101a
open Go.RowKit Go.Maps Go.WideMaps

/-- The step of a range over a version. -/
theorem wpList_next_ver (w : World) {ops : Array Oper} {rest : List Oper} {o : Oper} {a : Act} {Q : Exit → Act → World → Prop} (hg : o.guard = none) (it : Operand) (hop : o.op = Op.next it false)
    (b r n : Nat) (D : DataW Unit) (left : Lit → Bool) (cnt : Nat) (hit : a.eval it = .pointer (some ⟨r, 0, none⟩)) (h : w.ranges Try.prog 9 R33 b r n D left cnt)
    (hDone : cnt = 0 → (∀ kl, left kl = false) → wpList Try.prog ops Q rest (a.put o.dst (.tuple #[.bool false])) w)
    (hMore : ∀ (x : ByteArray) (c : Int) (w' : World) (cnt' : Nat), x.size ≤ maxLen → (Lit.int .u64 c).wf = true → left (keyL x) = true → (∀ zd, D.atKey (keyL x) zd = num c) → w'.ranges Try.prog 9 R33 b r n D (fun z => left z && !z.sameKey (keyL x)) cnt' → cnt' < cnt →
      w.grownBy w' (some r) → w'.heap.size = w.heap.size → (Instr.entry (.pointer (some ⟨r, 0, none⟩))).run Try.prog w' = .ok (.tuple #[.string x, .int .u64 c]) w' → wpList Try.prog ops Q rest (a.put o.dst (.tuple #[.bool true, .string x, .int .u64 c])) w') :
    wpList Try.prog ops Q (o :: rest) a w :=
  wpList_next_ranges w hg it hop 9 law9 R33 Value.string (Value.int .u64) (fun key kl hkey => by obtain ⟨x, rfl, _⟩ := key_inv hkey; exact ⟨x, rfl⟩) (fun v y hv => by obtain ⟨c, rfl, _⟩ := plainElem_int_inv Try.underlying33 hv; exact ⟨c, rfl⟩)
    b r n D left cnt hit h hDone (fun x c kl y w' cnt' hkey hlk hv hat hrg hlt hgr hsz hen => by
      obtain ⟨x', ex, rfl, hxs⟩ := key_inv hkey
      cases ex
      obtain ⟨c', ec, rfl, hwc⟩ := plainElem_int_inv Try.underlying33 hv
      cases ec
      exact hMore x c w' cnt' hxs hwc hlk hat hrg hlt hgr hsz hen)

def MeetRel (V O : DataW Unit) (b n : Nat) (w : World) (wr : World) : Prop :=
  ∃ (left : Lit → Bool) (cnt : Nat) (M : DataW Unit), wr.ranges Try.prog 9 R33 b (w.heap.size + 1) n V left cnt ∧ cnt ≤ Maps.size V ∧ wr.ownsMap Try.prog 9 R33 w.heap.size (Maps.size V - cnt) M ∧ MA M V O left ∧ Below w.heap.size w wr

set_option maxHeartbeats 1600000 in
set_option maxRecDepth 100000 in
theorem meet22_some {b n m : Nat} {V O : DataW Unit} {o : Value} {w : World} (hown : w.ownsMap Try.prog 9 R33 b n V) (hO : IsVer w o O m) (hmax : n ≤ 1048576) :
    Calls Try.prog 22 #[.map (some b), o] w fun e w' => ∃ M, e = .returned (.map (some w.heap.size)) ∧ w'.ownsMap Try.prog 9 R33 w.heap.size (Maps.size V) M ∧ MeetD M V O ∧ Below w.heap.size w w' := by
  have hmm := @run_makeMap Try.prog
  have hbl := hown.lt
  have hVok := vok_of hown
  have hOok := hO.vok
  have hVn := hown.size_le
  have HO : Hid (IsVer w o O m) := hO
  have e1 : (w.alloc (.map #[] 0)).heap.size = w.heap.size + 1 := by simp
  clear hO
  go_enter Try.func22, Try.ntmps22
  go_wp2_with (first
    | (at_range; refine wpList_range_own _ rfl _ 27 rfl 9 33 law9 Try.underlying27 _ b n _ rfl (hown.alloc _) ?_; intro w0 hrg0 hg0 hs0)
    | go_in)
  go_frame
  rw [e1] at hrg0 hs0 ⊢
  go_loopw [6] (fun _ wr => MeetRel V O b n w wr) (fun _ wr => wr.rangeLeft b (w.heap.size + 1))
  case atStart =>
    exact ⟨_, _, .map [], hrg0, Nat.le_refl _, ((World.ownsMap_made _ _ _ _).kept hg0 (by simp)).mono (Nat.zero_le _), MA.start hOok, ((Below.refl _ _).alloc (Nat.le_refl _) _).grown hg0 (by simp) (fun j hj => by cases hj)⟩
  case round =>
    obtain ⟨left, cnt, M, hrg, hcs, hout, hA, hnx⟩ := hrel
    have HA : Hid (MA M V O left) := hA
    clear hA
    go_wp2_with (first
      | (at_next; refine wpList_next_ver _ rfl _ rfl b (w.heap.size + 1) n _ _ _ rfl hrg ?_ ?_)
      | go_in)
    · intro hc0 hl0
      go_wp2
      go_ret
      subst hc0
      exact ⟨M, rfl, by simpa using hout, HA.out.done hl0, hnx⟩
    · intro x c w1 cnt1 hxs hwc hlx hat hrg1 hlt hg1 hs1 hen
      have hout1 := hout.kept hg1 (by simp)
      have hb1 : Below w.heap.size w w1 := hnx.grown hg1 hnx.size (fun j hj => by cases hj; exact Nat.le_succ _)
      have hlook := (HO.out.below hb1 (Nat.le_refl _)).look x hxs
      have hvV : val V (keyL x) = c := val_of hat
      obtain ⟨d, hd⟩ : ∃ d, d = val O (keyL x) := ⟨_, rfl⟩
      rw [← hd] at hlook
      have hwd : (Lit.int .u64 d).wf = true := by rw [hd]; exact hOok.wf _
      have hmin : min (val V (keyL x)) (val O (keyL x)) = min c d := by rw [hvV, ← hd]
      have HM : Hid (min (val V (keyL x)) (val O (keyL x)) = min c d) := hmin
      have hkey := keyL_ok x hxs
      have HL : Hid (left (keyL x) = true) := hlx
      have HVOK : Hid (VOk V) := hVok
      have HOOK : Hid (VOk O) := hOok
      clear hd hvV hmin hat hlx hVok hOok
      by_cases hdc : d < c
      · by_cases hp : 0 < d
        · go_wp2_with (first
            | (at_mapUpdate; refine wpList_mapUpdate_own _ rfl _ _ _ 27 rfl 9 33 law9 Try.underlying27 R33 w.heap.size _ _ rfl hout1 (by unfold maxLen; omega) _ _ _ rfl rfl hkey _ [] (plainElem_int Try.underlying33 hwd) ?_; intro w2 hout2 hg2; go_frame)
            | go_in)
          have hrg2 := hrg1.kept hg2 (fun e => by have := Option.some.inj e; omega) (fun e => by have := Option.some.inj e; omega)
          go_roundw
          case rel =>
            exact ⟨_, cnt1, _, hrg2, by omega, hout2.mono (by omega), HA.out.put hout.isMap x (by rw [HM.out]; omega) hp,
              hb1.grown hg2 hb1.size (fun j hj => by cases hj; exact Nat.le_refl _)⟩
          case measure => rw [hrg2.left_eq, hrg.left_eq]; exact hlt
        · go_wp2
          go_roundw
          case rel =>
            exact ⟨_, cnt1, M, hrg1, by omega, hout1.mono (by omega), HA.out.skip HVOK.out HOOK.out x HL.out (by rw [HM.out]; omega), hb1⟩
          case measure => rw [hrg1.left_eq, hrg.left_eq]; exact hlt
      · by_cases hp : 0 < c
        · go_wp2_with (first
            | (at_mapUpdate; refine wpList_mapUpdate_own _ rfl _ _ _ 27 rfl 9 33 law9 Try.underlying27 R33 w.heap.size _ _ rfl hout1 (by unfold maxLen; omega) _ _ _ rfl rfl hkey _ [] (plainElem_int Try.underlying33 hwc) ?_; intro w2 hout2 hg2; go_frame)
            | go_in)
          have hrg2 := hrg1.kept hg2 (fun e => by have := Option.some.inj e; omega) (fun e => by have := Option.some.inj e; omega)
          go_roundw
          case rel =>
            exact ⟨_, cnt1, _, hrg2, by omega, hout2.mono (by omega), HA.out.put hout.isMap x (by rw [HM.out]; omega) hp,
              hb1.grown hg2 hb1.size (fun j hj => by cases hj; exact Nat.le_refl _)⟩
          case measure => rw [hrg2.left_eq, hrg.left_eq]; exact hlt
        · go_wp2
          go_roundw
          case rel =>
            exact ⟨_, cnt1, M, hrg1, by omega, hout1.mono (by omega), HA.out.skip HVOK.out HOOK.out x HL.out (by rw [HM.out]; omega), hb1⟩
          case measure => rw [hrg1.left_eq, hrg.left_eq]; exact hlt

set_option maxRecDepth 100000 in
theorem meet22_nil (o : Value) (w : World) : Calls Try.prog 22 #[.map none, o] w fun e w' => e = .returned (.map (some w.heap.size)) ∧ w'.ownsMap Try.prog 9 R33 w.heap.size 0 (.map []) ∧ Below w.heap.size w w' := by
  have hmm := @run_makeMap Try.prog
  have hrg := run_range_nilMap (P := Try.prog) (w.alloc (.map #[] 0)) 27 9 33 Try.underlying27
  have hnx : ∀ ty, (Instr.next (.pointer (some ⟨(w.alloc (.map #[] 0)).heap.size, 0, none⟩)) false ty).run Try.prog ((w.alloc (.map #[] 0)).alloc (.mapIter none 0 #[] 0)) = _ := fun ty => run_next_nilMap _ ty 0 0 #[]
  have e1 : (w.alloc (.map #[] 0)).heap.size = w.heap.size + 1 := by simp
  rw [e1] at hrg hnx
  go_enter Try.func22, Try.ntmps22
  go_wp2
  refine wp_loop_rounds 1 ?_
  rw [rounds_succ]
  go_wp2
  go_ret
  exact ⟨rfl, (World.ownsMap_made _ _ _ _).alloc _, ((Below.refl _ _).alloc (Nat.le_refl _) _).alloc (by simp) _⟩

/-- THE MEET, of versions nil or not. -/
theorem meet22_any {n m : Nat} {V O : DataW Unit} {v o : Value} {w : World} (hV : IsVer w v V n) (hO : IsVer w o O m) (hmax : n ≤ 1048576) :
    Calls Try.prog 22 #[v, o] w fun e w' => ∃ x M, e = .returned x ∧ IsVer w' x M n ∧ MeetD M V O ∧ Below w.heap.size w w' := by
  have hOok := hO.vok
  rcases hV with ⟨rfl, rfl⟩ | ⟨b, rfl, hown⟩
  · refine (meet22_nil o w).mono fun e w' hh => ?_
    obtain ⟨he, h1, h2⟩ := hh
    refine ⟨_, _, he, .inr ⟨_, rfl, h1.mono (Nat.zero_le _)⟩, fun k => ?_, h2⟩
    have e0 : val (.map []) k = 0 := val_none rfl
    have := hOok.nonneg k
    refine ⟨?_, ?_⟩
    · show false = _
      rw [e0]; simp; omega
    · rw [e0]; omega
  · refine (meet22_some hown hO hmax).mono fun e w' hh => ?_
    obtain ⟨M, he, h1, h2, h3⟩ := hh
    exact ⟨_, M, he, .inr ⟨_, rfl, h1.mono hown.size_le⟩, h2, h3⟩

end Go.Proofs.Qxb6000101a
