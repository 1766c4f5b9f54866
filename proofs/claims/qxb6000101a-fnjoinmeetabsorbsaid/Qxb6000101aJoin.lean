/-
  THE WALK OF Version.Join.
-/
import Derived.Test.Qxb6000101aMeet
namespace Go.Proofs.Qxb6000101a
open Go.RowKit Go.Maps Go.WideMaps

theorem IsVer.isMap {w : World} {v : Value} {D : DataW Unit} {n : Nat} (h : IsVer w v D n) : ∃ p, v = .map p := by
  rcases h with ⟨rfl, _⟩ | ⟨b, rfl, _⟩
  · exact ⟨_, rfl⟩
  · exact ⟨_, rfl⟩

/-- The array of the two versions. -/
def Two (w : World) (g : Nat) (p q : Option Nat) : Prop := w.heap[g]? = some (.cells #[.map p, .map q] 27)
theorem Two.new (w : World) (o : Obj) (p q : Option Nat) : Two ((w.alloc o).alloc (.cells #[.map p, .map q] 27)) (w.heap.size + 1) p q := by
  have e : (w.alloc o).heap.size = w.heap.size + 1 := by simp
  unfold Two
  rw [← e]
  exact Array.getElem?_push_size
theorem Two.fst {w : World} {g : Nat} {p q : Option Nat} (h : Two w g p q) : w.cell? ⟨g, 0, none⟩ = some (.map p) := by
  unfold Two at h
  simp [World.cell?, h]
theorem Two.snd {w : World} {g : Nat} {p q : Option Nat} (h : Two w g p q) : w.cell? ⟨g, 1, none⟩ = some (.map q) := by
  unfold Two at h
  simp [World.cell?, h]
theorem Two.kept {w w' : World} {g : Nat} {p q : Option Nat} {row : Option Nat} (h : Two w g p q) (hg : w.grownBy w' row) (hne : some g ≠ row) : Two w' g p q := by
  have hlt : g < w.heap.size := (Array.getElem?_eq_some_iff.1 h).1
  exact (hg.block g hlt hne).trans h

/-- The outer loop: how many of the two versions have been joined. -/
def JStage (V O J : DataW Unit) (idx : Nat) : Prop := (idx = 0 ∧ J = .map []) ∨ (idx = 1 ∧ ∀ k, has J k = has V k ∧ val J k = val V k) ∨ (idx = 2 ∧ JoinD J V O)

def ORel (V O : DataW Unit) (n m : Nat) (p q : Option Nat) (w : World) (v15 : Value) (wr : World) : Prop :=
  ∃ (idx N : Nat) (J : DataW Unit), idx ≤ 2 ∧ v15 = .int .i64 idx ∧ wr.ownsMap Try.prog 9 R33 w.heap.size N J ∧ N ≤ (if 1 ≤ idx then n else 0) + (if 2 ≤ idx then m else 0) ∧ JStage V O J idx ∧ Two wr (w.heap.size + 1) p q ∧ Below w.heap.size w wr

/-- The inner loop. -/
def IRel (D : DataW Unit) (h : Lit → Bool) (v : Lit → Int) (b r n N : Nat) (p q : Option Nat) (w : World) (wr : World) : Prop :=
  ∃ (left : Lit → Bool) (cnt : Nat) (J : DataW Unit), wr.ranges Try.prog 9 R33 b r n D left cnt ∧ cnt ≤ Maps.size D ∧ wr.ownsMap Try.prog 9 R33 w.heap.size (N + (Maps.size D - cnt)) J ∧ JA J h v D left ∧ Two wr (w.heap.size + 1) p q ∧ Below w.heap.size w wr

set_option maxHeartbeats 1600000 in
set_option maxRecDepth 100000 in
theorem join16_any {n m : Nat} {V O : DataW Unit} {v o : Value} {w : World} (hV : IsVer w v V n) (hO : IsVer w o O m) (hn : n ≤ 262144) (hm : m ≤ 262144) :
    Calls Try.prog 16 #[v, o] w fun e w' => ∃ x J, e = .returned x ∧ IsVer w' x J (n + m) ∧ JoinD J V O ∧ Below w.heap.size w w' := by
  have hmm := @run_makeMap Try.prog
  obtain ⟨p, rfl⟩ := hV.isMap
  obtain ⟨q, rfl⟩ := hO.isMap
  have HV : Hid (IsVer w (.map p) V n) := hV
  have HO : Hid (IsVer w (.map q) O m) := hO
  clear hV hO
  go_enter Try.func16, Try.ntmps16
  go_wp2
  go_loopw [15] (fun v15 wr => ORel V O n m p q w v15 wr) (fun v15 _ => 2 - (intOf v15).toNat)
  case atStart =>
    exact ⟨0, 0, .map [], by omega, rfl, (World.ownsMap_made _ _ _ _).alloc _, by simp, .inl ⟨rfl, rfl⟩, Two.new _ _ _ _, ((Below.refl _ _).alloc (Nat.le_refl _) _).alloc (by simp) _⟩
  case round =>
    obtain ⟨idx, N, J, hi, rfl, hown, hN, hst, htwo, hnx⟩ := hrel
    have HST : Hid (JStage V O J idx) := hst
    have HN : Hid (N ≤ (if 1 ≤ idx then n else 0) + (if 2 ≤ idx then m else 0)) := hN
    have hNb : N ≤ 524288 := by
      have := HN.out
      split at this <;> split at this <;> omega
    clear hst hN
    by_cases hlt : idx < 2
    · obtain ⟨c, CD, cn, hcell, hcv, hcn, hfin⟩ : ∃ (c : Option Nat) (CD : DataW Unit) (cn : Nat), wr.cell? ⟨w.heap.size + 1, idx, none⟩ = some (.map c) ∧ Hid (IsVer w (.map c) CD cn) ∧ cn ≤ 262144 ∧
          Hid (∀ (N' : Nat) (J' : DataW Unit), N' ≤ N + cn → (∀ k, has J' k = (has J k || has CD k) ∧ val J' k = max (val J k) (val CD k)) → N' ≤ (if 1 ≤ idx + 1 then n else 0) + (if 2 ≤ idx + 1 then m else 0) ∧ JStage V O J' (idx + 1)) := by
        rcases HST.out with ⟨rfl, rfl⟩ | ⟨rfl, hJ⟩ | ⟨rfl, _⟩
        · refine ⟨p, V, n, htwo.fst, HV, hn, fun N' J' h1 h2 => ⟨?_, .inr (.inl ⟨rfl, fun k => ?_⟩)⟩⟩
          · have := HN.out
            simp at this ⊢; omega
          · obtain ⟨e1, e2⟩ := h2 k
            have e0 : val (.map []) k = 0 := val_none rfl
            have := HV.out.vok.nonneg k
            rw [e0] at e2
            exact ⟨by rw [e1]; show (false || has V k) = has V k; simp, by rw [e2]; omega⟩
        · refine ⟨q, O, m, htwo.snd, HO, hm, fun N' J' h1 h2 => ⟨?_, .inr (.inr ⟨rfl, fun k => ?_⟩)⟩⟩
          · have := HN.out
            simp at this ⊢; omega
          · obtain ⟨e1, e2⟩ := h2 k
            rw [(hJ k).1] at e1
            rw [(hJ k).2] at e2
            exact ⟨e1, e2⟩
        · omega
      have hd2 : decide ((idx : Int) < 2) = true := decide_eq_true (by omega)
      have hJok := vok_of hown
      have hJnn : Hid (∀ k, 0 ≤ val J k) := fun k => hJok.nonneg k
      clear hJok
      cases c with
      | none =>
        have hCD : CD = .map [] := by
          rcases hcv.out with ⟨_, h⟩ | ⟨b, h, _⟩
          · exact h
          · cases h
        have hrg := run_range_nilMap (P := Try.prog) wr 27 9 33 Try.underlying27
        have hnxt : ∀ ty, (Instr.next (.pointer (some ⟨wr.heap.size, 0, none⟩)) false ty).run Try.prog (wr.alloc (.mapIter none 0 #[] 0)) = _ := fun ty => run_next_nilMap _ ty 0 0 #[]
        obtain ⟨f1, f2⟩ := hfin.out N J (by omega) (fun k => by
          have := hJnn.out k
          have e0 : val (.map []) k = 0 := val_none rfl
          rw [hCD, e0]
          exact ⟨by show has J k = (has J k || false); simp, by omega⟩)
        have HF1 : Hid (N ≤ (if 1 ≤ idx + 1 then n else 0) + (if 2 ≤ idx + 1 then m else 0)) := f1
        have HF2 : Hid (JStage V O J (idx + 1)) := f2
        clear f1 f2 hfin
        go_wp2
        refine wp_loop_rounds 1 ?_
        rw [rounds_succ]
        go_wp2
        go_roundw
        case rel => exact ⟨idx + 1, N, J, by omega, by go_num, hown.alloc _, HF1.out, HF2.out, htwo.kept (World.grownBy_alloc _ _ none) (by simp), hnx.alloc hnx.size _⟩
        case measure => simp [intOf]; omega
      | some b =>
        obtain ⟨b', eb, hcown⟩ : ∃ b', some b = some b' ∧ w.ownsMap Try.prog 9 R33 b' cn CD := by
          rcases hcv.out with ⟨h, _⟩ | ⟨b', h, h2⟩
          · cases h
          · exact ⟨b', by cases h; rfl, h2⟩
        cases eb
        have hbl := hcown.lt
        have hCs := hcown.size_le
        have hcown1 : wr.ownsMap Try.prog 9 R33 b cn CD := by
          obtain ⟨es, clock, hh, r⟩ := hcown
          exact ⟨es, clock, by rw [hnx.block b hbl]; exact hh, r⟩
        have hwsz := hnx.size
        have hjlt := hown.lt
        have htlt : w.heap.size + 1 < wr.heap.size := (Array.getElem?_eq_some_iff.1 htwo).1
        go_wp2_with (first
          | (at_range; refine wpList_range_own _ rfl _ 27 rfl 9 33 law9 Try.underlying27 _ b cn _ rfl hcown1 ?_; intro w0 hrg0 hg0 hs0)
          | go_in)
        go_frame
        obtain ⟨r, hr⟩ : ∃ r, r = wr.heap.size := ⟨_, rfl⟩
        rw [← hr] at hrg0 hs0 htlt hjlt hwsz ⊢
        go_loopw [8] (fun _ wq => IRel CD (has J) (val J) b r cn N p q w wq) (fun _ wq => wq.rangeLeft b r)
        case atStart =>
          exact ⟨_, _, J, hrg0, Nat.le_refl _, (hown.kept hg0 (by simp)).mono (by omega), JA.start, htwo.kept hg0 (by simp), hnx.grown hg0 hnx.size (fun j hj => by cases hj)⟩
        case round =>
          clear hrg0 hg0 hs0 hown htwo hnx hcown1 hr
          obtain ⟨left, cnt, J', hrg, hcs, hout, hA, htwo, hnq⟩ := hrel
          have HA : Hid (JA J' (has J) (val J) CD left) := hA
          clear hA
          go_wp2_with (first
            | (at_next; refine wpList_next_ver _ rfl _ rfl b r cn _ _ _ rfl hrg ?_ ?_)
            | go_in)
          · intro hc0 hl0
            subst hc0
            obtain ⟨f1, f2⟩ := hfin.out (N + Maps.size CD) J' (by omega) (HA.out.done hl0 hJnn.out)
            have HF1 : Hid (N + Maps.size CD ≤ (if 1 ≤ idx + 1 then n else 0) + (if 2 ≤ idx + 1 then m else 0)) := f1
            have HF2 : Hid (JStage V O J' (idx + 1)) := f2
            clear f1 f2 hfin
            go_wp2
            refine ⟨⟨idx + 1, N + Maps.size CD, J', by omega, by go_num, by simpa using hout, HF1.out, HF2.out, htwo, hnq⟩, ?_⟩
            simp [intOf]; omega
          · intro x c w1 cnt1 hxs hwc hlx hat hrg1 hlt1 hg1 hs1 hen
            have hout1 := hout.kept hg1 (fun e => by have := Option.some.inj e; omega)
            have htwo1 := htwo.kept hg1 (fun e => by have := Option.some.inj e; omega)
            have hb1 : Below w.heap.size w w1 := hnq.grown hg1 hnq.size (fun j hj => by cases hj; omega)
            have hjv : IsVer w1 (.map (some w.heap.size)) J' (N + (Maps.size CD - cnt)) := .inr ⟨_, rfl, hout1⟩
            have hlook := hjv.look x hxs
            obtain ⟨d, hd⟩ : ∃ d, d = val J' (keyL x) := ⟨_, rfl⟩
            rw [← hd] at hlook
            have hwd : (Lit.int .u64 d).wf = true := by rw [hd]; exact (vok_of hout1).wf _
            have hkey := keyL_ok x hxs
            have HD : Hid (d = val J' (keyL x)) := hd
            have HAT : Hid (∀ zd, CD.atKey (keyL x) zd = num c) := hat
            have HL : Hid (left (keyL x) = true) := hlx
            clear hd hat hlx hjv
            by_cases hdc : d < c
            · go_wp2_with (first
                | (at_mapUpdate; refine wpList_mapUpdate_own _ rfl _ _ _ 27 rfl 9 33 law9 Try.underlying27 R33 w.heap.size _ _ rfl hout1 (by unfold maxLen; omega) _ _ _ rfl rfl hkey _ [] (plainElem_int Try.underlying33 hwc) ?_; intro w2 hout2 hg2; go_frame)
                | go_in)
              have hrg2 := hrg1.kept hg2 (fun e => by have := Option.some.inj e; omega) (fun e => by have := Option.some.inj e; omega)
              go_roundw
              case rel =>
                have HR : IRel CD (has J) (val J) b r cn N p q w w2 := ⟨_, cnt1, _, hrg2, by omega, hout2.mono (by omega), HA.out.put hout.isMap x HL.out HAT.out (by rw [← HD.out]; omega), htwo1.kept hg2 (fun e => by have := Option.some.inj e; omega),
                  hb1.grown hg2 hb1.size (fun j hj => by cases hj; exact Nat.le_refl _)⟩
                first | exact HR | ((repeat apply Exists.intro); refine ⟨HR, ?_⟩; rfl)
              case measure => rw [hrg2.left_eq, hrg.left_eq]; exact hlt1
            · go_wp2_with (first
                | (at_mapUpdate; refine wpList_mapUpdate_own _ rfl _ _ _ 27 rfl 9 33 law9 Try.underlying27 R33 w.heap.size _ _ rfl hout1 (by unfold maxLen; omega) _ _ _ rfl rfl hkey _ [] (plainElem_int Try.underlying33 hwd) ?_; intro w2 hout2 hg2; go_frame)
                | go_in)
              have hrg2 := hrg1.kept hg2 (fun e => by have := Option.some.inj e; omega) (fun e => by have := Option.some.inj e; omega)
              go_roundw
              case rel =>
                have HR : IRel CD (has J) (val J) b r cn N p q w w2 := ⟨_, cnt1, _, hrg2, by omega, hout2.mono (by omega), HA.out.put hout.isMap x HL.out HAT.out (by rw [← HD.out]; omega), htwo1.kept hg2 (fun e => by have := Option.some.inj e; omega),
                  hb1.grown hg2 hb1.size (fun j hj => by cases hj; exact Nat.le_refl _)⟩
                first | exact HR | ((repeat apply Exists.intro); refine ⟨HR, ?_⟩; rfl)
              case measure => rw [hrg2.left_eq, hrg.left_eq]; exact hlt1
    · have hie : idx = 2 := by omega
      subst hie
      have hJD : JoinD J V O := by
        rcases HST.out with ⟨h, _⟩ | ⟨h, _⟩ | ⟨_, h⟩
        · omega
        · omega
        · exact h
      have hNN : N ≤ n + m := by have := HN.out; simpa using this
      go_wp2
      go_ret
      exact ⟨_, J, rfl, .inr ⟨_, rfl, hown.mono hNN⟩, hJD, hnx⟩

end Go.Proofs.Qxb6000101a
