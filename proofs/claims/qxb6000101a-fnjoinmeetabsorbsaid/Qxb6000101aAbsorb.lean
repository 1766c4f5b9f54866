/-
  THE LAW FnJoinMeetAbsorb: her walk.
-/
import Derived.Test.Qxb6000101aSame
namespace Go.Proofs.Qxb6000101a
open Go.RowKit Go.Maps Go.WideMaps

/-- Every key of D is among ks. -/
def CovK (D : DataW Unit) (ks : List ByteArray) : Prop := ∀ k, has D k = true → ∃ s ∈ ks, k = keyL s

theorem Cov.keys {D : DataW Unit} {es : List Prs} {ks : List ByteArray} (h : Cov D es) (hs : ∀ s ∈ keysOf es, s ∈ ks) : CovK D ks := fun k hk => by
  obtain ⟨e, he, ek⟩ := h k hk
  exact ⟨e.k, hs _ (List.mem_map.2 ⟨e, he, rfl⟩), ek⟩

set_option maxHeartbeats 800000 in
set_option maxRecDepth 100000 in
theorem absorb7_out (a1 a2 : Option Addr) (l1 l2 c1 c2 : Nat) (xs ys : List Prs) (w : World) (h1 : IsPrs w a1 l1 c1 xs) (h2 : IsPrs w a2 l2 c2 ys) (ho : 65536 < xs.length ∨ 65536 < ys.length) :
    Calls Try.prog 7 #[.slice a1 l1 c1, .slice a2 l2 c2] w fun e w' => e = .returned (.bool true) ∧ Below w.heap.size w w' := by
  have HC26 := bytes26_any h1 h2
  obtain rfl := h1.2.1
  obtain rfl := h2.2.1
  clear h1 h2
  by_cases k1 : 65536 < xs.length
  · have d1 : decide ((65536 : Int) < (xs.length : Int)) = true := decide_eq_true (by omega)
    clear ho
    go_enter Try.func7, Try.ntmps7
    go_wp2_with (go_at_call 26; refine HC26.mono ?_; rintro e w' ⟨⟨r, rfl⟩, rfl⟩)
    all_goals (go_ret; exact ⟨rfl, Below.refl _ _⟩)
  · have d1 : decide ((65536 : Int) < (xs.length : Int)) = false := decide_eq_false (by omega)
    have d2 : decide ((65536 : Int) < (ys.length : Int)) = true := decide_eq_true (by omega)
    clear ho
    go_enter Try.func7, Try.ntmps7
    go_wp2_with (go_at_call 26; refine HC26.mono ?_; rintro e w' ⟨⟨r, rfl⟩, rfl⟩)
    all_goals (go_ret; exact ⟨rfl, Below.refl _ _⟩)

def LRel (n : Nat) (v11 : Value) : Prop := ∃ k : Nat, k ≤ n ∧ v11 = .int .i64 k

set_option maxHeartbeats 1600000 in
set_option maxRecDepth 100000 in
theorem absorb7_in (a1 a2 : Option Addr) (l1 l2 c1 c2 : Nat) (xs ys : List Prs) (w : World) (h1 : IsPrs w a1 l1 c1 xs) (h2 : IsPrs w a2 l2 c2 ys) (hn1 : xs.length ≤ 65536) (hn2 : ys.length ≤ 65536) :
    Calls Try.prog 7 #[.slice a1 l1 c1, .slice a2 l2 c2] w fun e w' => e = .returned (.bool true) ∧ Below w.heap.size w w' := by
  have HC26 := bytes26_any h1 h2
  have HC12x := bytesOf12_any h1 hn1
  have HC12y := bytesOf12_any h2 hn2
  have HC13x := copy13_any h1 hn1
  have HH2 : Hid (IsPrs w a2 l2 c2 ys) := h2
  have hok1 : Hid (PrsOk xs) := h1.1
  have hok2 : Hid (PrsOk ys) := h2.1
  obtain rfl := h1.2.1
  obtain rfl := h2.2.1
  have d1 : decide ((65536 : Int) < (xs.length : Int)) = false := decide_eq_false (by omega)
  have d2 : decide ((65536 : Int) < (ys.length : Int)) = false := decide_eq_false (by omega)
  have hmm := @run_makeMap Try.prog
  clear h1 h2
  go_enter Try.func7, Try.ntmps7
  go_upto_region 8 with (first | (go_at_call 26; refine HC26.mono ?_; rintro e w' ⟨⟨r, rfl⟩, hw⟩; replace hw := hw.symm; subst hw) | (go_at_call_of 12 (List.length xs); refine HC12x.mono ?_; rintro e w' ⟨⟨N1, rfl⟩, hw⟩; replace hw := hw.symm; subst hw) | (go_at_call_of 12 (List.length ys); refine HC12y.mono ?_; rintro e w' ⟨⟨N2, rfl⟩, hw⟩; replace hw := hw.symm; subst hw) | (go_at_call 13; refine HC13x.mono ?_; rintro e w1 ⟨b1, e1, rfl, hp1, hb1⟩))
  · go_ret; exact ⟨rfl, Below.refl _ _⟩
  · go_ret; exact ⟨rfl, Below.refl _ _⟩
  have HC13y := copy13_any (HH2.out.later hb1) hn2
  clear HC26 HC12x HC12y HC13x
  go_upto_region 9 with (go_at_call 13; refine HC13y.mono ?_; rintro e w2 ⟨b2, e2, rfl, hp2, hb2⟩)
  have hb12 := hb1.trans (hb2.mono hb1.size)
  have hp12 := hp1.later hb2
  have HC14x := mk14_any hp12 hn1
  clear HC13y
  go_upto_region 10 with (go_at_call 14; refine HC14x.mono ?_; rintro e w3 ⟨va, A, rfl, hA3, hcA, hb3⟩)
  have hb13 := hb12.trans (hb3.mono hb12.size)
  have HC14y := mk14_any (hp2.later hb3) hn2
  clear HC14x
  go_upto_region 11 with (go_at_call 14; refine HC14y.mono ?_; rintro e w4 ⟨vb, B, rfl, hB4, hcB, hb4⟩)
  have hb14 := hb13.trans (hb4.mono hb13.size)
  have hA4 := hA3.below hb4 (Nat.le_refl _)
  have hpx := (hp12.later hb3).later hb4
  have hpy := (hp2.later hb3).later hb4
  clear HC14y hb1 hb2 hb3 hb4 hb12 hb13 hp1 hp2 hp12 hA3
  have hb5 : Below w4.heap.size w4 (w4.alloc (.map #[] 0)) := (Below.refl _ _).alloc (Nat.le_refl _) _
  have HC15x := addKeys15_any (w := w4.alloc (.map #[] 0)) (v := .slice none 0 0) (S := w4.heap.size) (ks := []) (World.ownsRow_nil _ _ _ _) (World.ownsMap_made _ _ _ _) SetD.empty hpx hb5 (Nat.le_refl _) (Nat.zero_le _) hn1
  obtain ⟨K1, hK1⟩ : ∃ K1, K1 = addAll [] (keysOf xs) := ⟨_, rfl⟩
  rw [← hK1] at HC15x
  have hK1l : K1.length ≤ 65536 := by
    have := addAll_len [] (keysOf xs)
    rw [← hK1] at this
    simp only [keysOf, List.length_map, List.length_nil] at this
    omega
  go_upto_region 13 with (go_at_call 15; refine HC15x.mono ?_; rintro e w6 ⟨v1, D1, rfl, hr6, hm6, hs6, hb6⟩)
  have hb46 : Below w4.heap.size w4 w6 := hb5.trans hb6
  have HC15y := addKeys15_any hr6 hm6 hs6 hpy hb46 (Nat.le_refl _) hK1l hn2
  clear HC15x
  obtain ⟨K, hK⟩ : ∃ K, K = addAll K1 (keysOf ys) := ⟨_, rfl⟩
  rw [← hK] at HC15y
  go_upto_region 14 with (go_at_call 15; refine HC15y.mono ?_; rintro e w7 ⟨v2, D2, rfl, hr7, hm7, hs7, hb7⟩)
  have hb47 : Below w4.heap.size w4 w7 := hb46.trans hb7
  have hB07 : Below w.heap.size w w7 := hb14.trans (hb47.mono hb14.size)
  have hmemK : ∀ s, s ∈ K ↔ s ∈ keysOf xs ∨ s ∈ keysOf ys := fun s => by
    rw [hK, addAll_mem, hK1, addAll_mem]; simp
  have hKn : K.Nodup := by
    rw [hK, hK1]; exact addAll_nodup _ _ (addAll_nodup _ _ List.nodup_nil)
  have hKs : ∀ s ∈ K, s.size ≤ maxLen := fun s hs => by
    rcases (hmemK s).1 hs with h | h
    · obtain ⟨e, he, rfl⟩ := List.mem_map.1 h; exact (hok1.out e he).1
    · obtain ⟨e, he, rfl⟩ := List.mem_map.1 h; exact (hok2.out e he).1
  have hKl : K.length ≤ 131072 := by
    have := addAll_len K1 (keysOf ys)
    rw [← hK] at this
    simp only [keysOf, List.length_map] at this
    omega
  have hcovA : CovK A K := hcA.keys fun s hs => (hmemK s).2 (.inl hs)
  obtain ⟨ak, ck, rfl, hks⟩ := ks_open hr7 hKs
  have hA7 := hA4.below hb47 (Nat.le_refl _)
  have hB7 := hB4.below hb47 (Nat.le_refl _)
  clear HC15y hb5 hb6 hb46 hb7 hb47 hr6 hm6 hs6 hr7 hm7 hs7 hmemK hK hK1 hK1l hpx hpy hcA hcB hA4 hB4 hb14 hok1 hok2 HH2
  have hAok := hA7.vok
  have HSZA : Maps.size A = (K.filter (inD A)).length := size_count hAok.canon K hKn hcovA
  have HM1 := meet22_any hA7 hB7 (by omega)
  go_upto_region 16 with (first
    | (go_at_call 22; refine HM1.mono ?_; rintro e w8 ⟨vm, M1, rfl, hM1, hMD1, hb8⟩)
    | (go_at_call 16; refine (join16_any (hA7.below hb8 (Nat.le_refl _)) hM1 ?j1 ?j2).mono ?_; (case j1 => omega); (case j2 => omega); rintro e w9 ⟨vx, X1, rfl, hX1, hJD1, hb9⟩)
    | (go_at_call 19; rw [absorb_join hAok hX1.vok hMD1 hJD1] at hX1; refine (same19_any hX1 ((hA7.below hb8 (Nat.le_refl _)).below hb9 (Nat.le_refl _)) ((hks.later hb8).later hb9) hKl HSZA).mono ?_; rintro e w' ⟨rfl, hw⟩; replace hw := hw.symm; subst hw))
  have hb79 : Below w7.heap.size w7 w9 := hb8.trans (hb9.mono hb8.size)
  have hA9 := hA7.below hb79 (Nat.le_refl _)
  have hB9 := hB7.below hb79 (Nat.le_refl _)
  have hk9 := hks.later hb79
  have hB09 : Below w.heap.size w w9 := hB07.trans (hb79.mono hB07.size)
  clear HM1 hM1 hMD1 hX1 hJD1 hb8 hb9 hA7 hB7 hks hB07 hb79
  have HJ2 := join16_any hA9 hB9 (by omega) (by omega)
  go_upto_region 18 with (first
    | (go_at_call 16; refine HJ2.mono ?_; rintro e w10 ⟨vj, J2, rfl, hJ2, hJD2, hb10⟩)
    | (go_at_call 22; refine (meet22_any (hA9.below hb10 (Nat.le_refl _)) hJ2 ?j1).mono ?_; (case j1 => omega); rintro e w11 ⟨vy, X2, rfl, hX2, hMD2, hb11⟩)
    | (go_at_call 25; refine (pos25_any hX2 ((hA9.below hb10 (Nat.le_refl _)).below hb11 (Nat.le_refl _)) ((hk9.later hb10).later hb11) hKl (absorb_meet hJD2 hMD2) (size_count hX2.vok.canon K hKn (fun k hk => hcovA k (has_of_pos (of_decide_eq_true (((absorb_meet hJD2 hMD2) k).1.symm.trans hk)))))).mono ?_; rintro e w' ⟨rfl, hw⟩; replace hw := hw.symm; subst hw))
  have hb911 : Below w9.heap.size w9 w11 := hb10.trans (hb11.mono hb10.size)
  have hA11 := hA9.below hb911 (Nat.le_refl _)
  have hB11 := hB9.below hb911 (Nat.le_refl _)
  have hk11 := hk9.later hb911
  have hB11b : Below w.heap.size w w11 := hB09.trans (hb911.mono hB09.size)
  clear HJ2 hJ2 hJD2 hX2 hMD2 hb10 hb11 hA9 hB9 hk9 hB09 hb911
  have HM3 := meet22_any hA11 hB11 (by omega)
  go_upto_region 19 with (go_at_call 22; refine HM3.mono ?_; rintro e w12 ⟨vm3, M3, rfl, hM3, hMD3, hb12⟩)
  have HJ3 := join16_any (hA11.below hb12 (Nat.le_refl _)) (hB11.below hb12 (Nat.le_refl _)) (by omega) (by omega)
  go_upto_region 20 with (go_at_call 16; refine HJ3.mono ?_; rintro e w13 ⟨vj3, J3, rfl, hJ3, hJD3, hb13⟩)
  have hb1113 : Below w11.heap.size w11 w13 := hb12.trans (hb13.mono hb12.size)
  have HA : Hid (IsVer w13 va A 65536) := hA11.below hb1113 (Nat.le_refl _)
  have HB : Hid (IsVer w13 vb B 65536) := hB11.below hb1113 (Nat.le_refl _)
  have HM : Hid (IsVer w13 vm3 M3 65536) := hM3.below hb13 (Nat.le_refl _)
  have HJ : Hid (IsVer w13 vj3 J3 _) := hJ3
  have HK : Hid (KsIn w13 ak K) := hk11.later hb1113
  have HBB : Below w.heap.size w w13 := hB11b.trans (hb1113.mono hB11b.size)
  have HMD : Hid (MeetD M3 A B) := hMD3
  have HJD : Hid (JoinD J3 A B) := hJD3
  clear HM3 HJ3 hA11 hB11 hk11 hB11b hM3 hMD3 hb12 hJ3 hJD3 hb13 hb1113 hcovA hAok HSZA hKn hKs
  go_wp2
  go_loop [11] (fun v11 => LRel K.length v11) (fun i => K.length - (intOf i).toNat)
  case atStart => exact ⟨0, Nat.zero_le _, rfl⟩
  case round =>
    obtain ⟨k, hkk, rfl⟩ := hrel
    by_cases hlt : k < K.length
    · obtain ⟨g, rfl, hc⟩ := HK.out.2 (by omega)
      have hcx := hc k hlt
      have hxs : (K.getD k ByteArray.empty).size ≤ maxLen := by
        rw [List.getD, List.getElem?_eq_getElem hlt]; exact HK.out.1 _ (List.getElem_mem hlt)
      obtain ⟨s, hs⟩ : ∃ s, s = K.getD k ByteArray.empty := ⟨_, rfl⟩
      rw [← hs] at hcx hxs
      have k1 := HA.out.look s hxs
      have k2 := HB.out.look s hxs
      have k3 := HM.out.look s hxs
      have k4 := HJ.out.look s hxs
      have e3 := (HMD.out (keyL s)).2
      have e4 := (HJD.out (keyL s)).2
      obtain ⟨za, hza⟩ : ∃ z, z = val A (keyL s) := ⟨_, rfl⟩
      obtain ⟨zb, hzb⟩ : ∃ z, z = val B (keyL s) := ⟨_, rfl⟩
      obtain ⟨zm, hzm⟩ : ∃ z, z = val M3 (keyL s) := ⟨_, rfl⟩
      obtain ⟨zj, hzj⟩ : ∃ z, z = val J3 (keyL s) := ⟨_, rfl⟩
      rw [← hza] at k1
      rw [← hzb] at k2
      rw [← hzm] at k3
      rw [← hzj] at k4
      rw [← hza, ← hzb, ← hzm] at e3
      rw [← hza, ← hzb, ← hzj] at e4
      have d1 : decide (za < zm) = false := decide_eq_false (by omega)
      have d2 : decide (zb < zm) = false := decide_eq_false (by omega)
      have d3 : decide (zj < za) = false := decide_eq_false (by omega)
      have d4 : decide (zj < zb) = false := decide_eq_false (by omega)
      clear hs hza hzb hzm hzj e3 e4 hc
      go_wp2
      go_round
      case rel => exact ⟨k + 1, by omega, by go_num⟩
      case measure => simp [intOf]; omega
    · go_wp2
      go_ret
      exact ⟨rfl, HBB⟩

theorem absorb7_walk (a1 : Option Addr) (l1 c1 : Nat) (xs : List Prs) (a2 : Option Addr) (l2 c2 : Nat) (ys : List Prs) (w : World) (h1 : IsPrs w a1 l1 c1 xs) (h2 : IsPrs w a2 l2 c2 ys) :
    Calls Try.prog 7 #[.slice a1 l1 c1, .slice a2 l2 c2] w fun e w' => e = .returned (.bool true) ∧ Below w.heap.size w w' := by
  by_cases h : 65536 < xs.length ∨ 65536 < ys.length
  · exact absorb7_out a1 a2 l1 l2 c1 c2 xs ys w h1 h2 h
  · exact absorb7_in a1 a2 l1 l2 c1 c2 xs ys w h1 h2 (by omega) (by omega)

end Go.Proofs.Qxb6000101a
