/-
  THE LAW FnQueueUpToExact: her walk.
-/
import Derived.Test.Qxb6600318aUpTo
import Derived.StillTailTactics
namespace Go.Proofs.Qxb6600318a
open Go.RowKit

/-! ### The plain law -/
/-- How many of the first j entries are at or before the revision. -/
def cnt (E : List Ent) (R : Int) (j : Nat) : Nat := ((E.take j).filter (pB R)).length

theorem cnt_zero (E : List Ent) (R : Int) : cnt E R 0 = 0 := by simp [cnt]
theorem cnt_succ (E : List Ent) (R : Int) (j : Nat) (h : j < E.length) : cnt E R (j + 1) = cnt E R j + if pB R (E.getD j Ent.nought) then 1 else 0 := by
  unfold cnt
  rw [filt_snoc E R j h, List.length_append]
  congr 1
  split <;> rfl
theorem cnt_le (E : List Ent) (R : Int) (j : Nat) : cnt E R j ≤ j := filt_len E R j
theorem cnt_all (E : List Ent) (R : Int) : cnt E R E.length = (E.filter (pB R)).length := by unfold cnt; rw [List.take_length]

/-- The entry at j, where it is at or before the revision, is the cnt j-th of the answer. -/
theorem got_at (E : List Ent) (R : Int) (j : Nat) (h : j < E.length) (hp : pB R (E.getD j Ent.nought) = true) : cnt E R j < (E.filter (pB R)).length ∧ (E.filter (pB R)).getD (cnt E R j) Ent.nought = E.getD j Ent.nought := by
  have e1 : E.filter (pB R) = (E.take (j + 1)).filter (pB R) ++ (E.drop (j + 1)).filter (pB R) := by
    rw [← List.filter_append, List.take_append_drop]
  rw [filt_snoc E R j h, hp, if_pos rfl] at e1
  rw [e1]
  unfold cnt
  refine ⟨by simp, ?_⟩
  simp [List.getD]

/-- Every entry of the answer is at or before the revision. -/
theorem got_le (E : List Ent) (R : Int) (i : Nat) (h : i < (E.filter (pB R)).length) : ((E.filter (pB R)).getD i Ent.nought).r ≤ R := by
  have hm : (E.filter (pB R)).getD i Ent.nought ∈ E.filter (pB R) := by
    rw [List.getD, List.getElem?_eq_getElem h]; exact List.getElem_mem h
  have := (List.mem_filter.1 hm).2
  exact of_decide_eq_true this

theorem same_self (e : Ent) : sameE e e = true := by simp [sameE]
theorem same_not (a b : Ent) (h : a.r ≠ b.r) : sameE a b = false := by
  have : (a.r == b.r) = false := by simpa using h
  simp [sameE, this]

theorem IsStrs.later {w w1 : World} {a : Option Addr} {len cap : Nat} {ss : List ByteArray} (h : IsStrs w a len cap ss) (hb : Below w.heap.size w w1) : IsStrs w1 a len cap ss :=
  ⟨h.1, h.2.imp id fun ⟨x, e1, e2, e3, e4, hc⟩ => ⟨x, e1, e2, e3, e4, fun i hi => cell_later hb (hc i hi)⟩⟩
theorem IsInts.later {w w1 : World} {a : Option Addr} {len cap : Nat} {zs : List Int} (h : IsInts w a len cap zs) (hb : Below w.heap.size w w1) : IsInts w1 a len cap zs :=
  ⟨h.1, h.2.imp id fun ⟨x, e1, e2, e3, e4, hc⟩ => ⟨x, e1, e2, e3, e4, fun i hi => cell_later hb (hc i hi)⟩⟩

/-- What upTo answers, laid open. -/
theorem upTo_open {w : World} {base : Nat} {v : Value} {G : List Ent} (h : w.ownsRow base 32 3 v G.length (cellsE G)) (h0 : G ≠ []) : ∃ gg c, v = .slice (some ⟨gg, 0, none⟩) G.length c ∧ gg < w.heap.size ∧ EntCells w gg G := by
  rcases h.2 with ⟨_, e⟩ | ⟨gg, cap, cur, rfl, _, hg, _⟩
  · exact absurd (List.eq_nil_of_length_eq_zero e) h0
  · refine ⟨gg, cap, rfl, (Array.getElem?_eq_some_iff.1 hg).1, fun j hj => ?_⟩
    obtain ⟨e1, e2, e3⟩ := cellsE_at G j hj
    rw [h.cellAt (j * 3) (by omega), h.cellAt (j * 3 + 1) (by omega), h.cellAt (j * 3 + 2) (by omega)]
    exact ⟨e1, e2, e3⟩

def CRel (E : List Ent) (R : Int) (n : Nat) (v13 v14 : Value) : Prop := ∃ k : Nat, k ≤ n ∧ v14 = .int .i64 k ∧ v13 = .int .i64 (cnt E R k : Nat)
def MRel (E : List Ent) (R : Int) (n m : Nat) (w : World) (v15 v16 : Value) (wr : World) : Prop := ∃ i j : Nat, i ≤ m ∧ j ≤ n ∧ v16 = .int .i64 i ∧ v15 = .int .i64 j ∧ cnt E R j = i ∧ Below w.heap.size w wr
def JRel (E : List Ent) (R : Int) (n i : Nat) (w : World) (v15 : Value) (wr : World) : Prop := ∃ j : Nat, j ≤ n ∧ v15 = .int .i64 j ∧ cnt E R j = i ∧ Below w.heap.size w wr

/-- A region whose head only reads and whose tail is forced, in the walk's own spelling of the draw. -/
theorem region_tail {P : Program} {id : Nat} {Q : Exit → Act → World → Prop} {a : Act} {w : World} {l : List Oper} (n : Nat) (hm : P.follows .mixedOrders = true) (hB : Region.lexTailB .any l.toArray n = true)
    (h : wpStill P l.toArray w.drew (fun a' => wpList P l.toArray Q (l.drop n) a' w.drew) (l.take n) a) : (Code.region id l.toArray true).wp P Q a w := wp_region_still_tail n hm hB h

/-! ### The walk -/
set_option maxHeartbeats 800000 in
set_option maxRecDepth 100000 in
theorem qexact3_out (a1 a2 a3 : Option Addr) (l1 l2 l3 c1 c2 c3 : Nat) (ks vs : List ByteArray) (rs : List Int) (q R : Int) (w : World) (hk : IsStrs w a1 l1 c1 ks) (hv : IsStrs w a2 l2 c2 vs) (hr : IsInts w a3 l3 c3 rs)
    (ho : 65536 < ks.length ∨ 65536 < vs.length ∨ 65536 < rs.length) :
    Calls Try.prog 3 #[.slice a1 l1 c1, .slice a2 l2 c2, .slice a3 l3 c3, .int .i64 q, .int .i64 R] w fun e w' => e = .returned (.bool true) ∧ Below w.heap.size w w' := by
  have HC7 := bytes7_any hk hv hr q R
  obtain rfl := hk.row.1
  obtain rfl := hv.row.1
  obtain rfl := hr.row.1
  clear hk hv hr
  by_cases h1 : 65536 < ks.length
  · have d1 : decide ((65536 : Int) < (ks.length : Int)) = true := decide_eq_true (by omega)
    clear ho
    go_enter Try.func3, Try.ntmps3
    go_wp2_with (go_at_call 7; refine HC7.mono ?_; rintro e w' ⟨⟨r, rfl⟩, rfl⟩)
    all_goals (go_ret; exact ⟨rfl, Below.refl _ _⟩)
  · have d1 : decide ((65536 : Int) < (ks.length : Int)) = false := decide_eq_false (by omega)
    by_cases h2 : 65536 < vs.length
    · have d2 : decide ((65536 : Int) < (vs.length : Int)) = true := decide_eq_true (by omega)
      clear ho
      go_enter Try.func3, Try.ntmps3
      go_wp2_with (go_at_call 7; refine HC7.mono ?_; rintro e w' ⟨⟨r, rfl⟩, rfl⟩)
      all_goals (go_ret; exact ⟨rfl, Below.refl _ _⟩)
    · have d2 : decide ((65536 : Int) < (vs.length : Int)) = false := decide_eq_false (by omega)
      have d3 : decide ((65536 : Int) < (rs.length : Int)) = true := decide_eq_true (by omega)
      clear ho
      go_enter Try.func3, Try.ntmps3
      go_wp2_with (go_at_call 7; refine HC7.mono ?_; rintro e w' ⟨⟨r, rfl⟩, rfl⟩)
      all_goals (go_ret; exact ⟨rfl, Below.refl _ _⟩)

set_option maxHeartbeats 1600000 in
set_option maxRecDepth 100000 in
theorem qexact3_in (a1 a2 a3 : Option Addr) (l1 l2 l3 c1 c2 c3 : Nat) (ks vs : List ByteArray) (rs : List Int) (q R : Int) (w : World) (hk : IsStrs w a1 l1 c1 ks) (hv : IsStrs w a2 l2 c2 vs) (hr : IsInts w a3 l3 c3 rs)
    (hn1 : ks.length ≤ 65536) (hn2 : vs.length ≤ 65536) (hn3 : rs.length ≤ 65536) :
    Calls Try.prog 3 #[.slice a1 l1 c1, .slice a2 l2 c2, .slice a3 l3 c3, .int .i64 q, .int .i64 R] w fun e w' => e = .returned (.bool true) ∧ Below w.heap.size w w' := by
  have HC7 := bytes7_any hk hv hr q R
  have HC8k := sbytes8_any hk hn1
  have HC8v := sbytes8_any hv hn2
  have HC9k := clone9_any hk (by omega)
  have HHV : Hid (IsStrs w a2 l2 c2 vs) := hv
  have HHR : Hid (IsInts w a3 l3 c3 rs) := hr
  obtain rfl := hk.row.1
  obtain rfl := hv.row.1
  obtain rfl := hr.row.1
  have d1 : decide ((65536 : Int) < (ks.length : Int)) = false := decide_eq_false (by omega)
  have d2 : decide ((65536 : Int) < (vs.length : Int)) = false := decide_eq_false (by omega)
  have d3 : decide ((65536 : Int) < (rs.length : Int)) = false := decide_eq_false (by omega)
  clear hk hv hr
  go_enter Try.func3, Try.ntmps3
  go_upto_region 8 with (first | (go_at_call 7; refine HC7.mono ?_; rintro e w' ⟨⟨r, rfl⟩, rfl⟩) | (go_at_call_of 8 (List.length ks); refine HC8k.mono ?_; rintro e w' ⟨⟨N1, rfl, hN1⟩, rfl⟩) | (go_at_call_of 8 (List.length vs); refine HC8v.mono ?_; rintro e w' ⟨⟨N2, rfl, hN2⟩, rfl⟩) | (go_at_call 9; refine HC9k.mono ?_; rintro e w1 ⟨b1, e1, rfl, hrow1, hb1⟩))
  · go_ret; exact ⟨rfl, Below.refl _ _⟩
  · go_ret; exact ⟨rfl, Below.refl _ _⟩
  have HC9v := clone9_any (HHV.out.later hb1) (by omega)
  clear HC7 HC8k HC8v HC9k
  go_upto_region 9 with (go_at_call 9; refine HC9v.mono ?_; rintro e w2 ⟨b2, e2, rfl, hrow2, hb2⟩)
  have hb12 := hb1.trans (hb2.mono hb1.size)
  have HC10 := clone10_any (HHR.out.later hb12) (by omega)
  clear HC9v
  go_upto_region 10 with (go_at_call 10; refine HC10.mono ?_; rintro e w3 ⟨b3, e3, rfl, hrow3, hb3⟩)
  have hb13 := hb12.trans (hb3.mono hb12.size)
  have HC11 := entries11_any (c1 := e1) (c2 := e2) (c3 := e3) ((hrow1.below hb2 (Nat.le_refl _)).below hb3 (Nat.le_refl _)) (hrow2.below hb3 (Nat.le_refl _)) hrow3 hn1 hn2 hn3
  clear HC10
  go_upto_region 11 with (go_at_call 11; refine HC11.mono ?_; rintro e w4 ⟨g, rfl, hg, hec, hb4⟩)
  have hb14 := hb13.trans (hb4.mono hb13.size)
  obtain ⟨E, hE⟩ : ∃ E, E = ents ks vs rs := ⟨_, rfl⟩
  have hEl : E.length = rs.length := by rw [hE, ents_len]
  rw [← hE] at hec
  have HC12 := zzupTo12_any g rs.length E q R w4 (by omega) hg hec
  rw [hEl] at HC12
  have HEL : Hid (E.length = rs.length) := hEl
  have HEC : Hid (EntCells w4 g E) := hec
  clear HC11 hrow1 hrow2 hrow3 hb1 hb2 hb3 hb12 hb13 hE hEl hec hb4
  go_upto_region 12 with (go_at_call 12; refine HC12.mono ?_; rintro e w5 ⟨v, rfl, hown, hnil, hb5⟩)
  have HB5 : Below w'.heap.size w' w5 := hb14.trans (hb5.mono hb14.size)
  have HEC5 : Hid (EntCells w5 g E) := HEC.out.below hb5 hg
  have hg5 : g < w5.heap.size := Nat.lt_of_lt_of_le hg hb5.size
  obtain ⟨G, hG⟩ : ∃ G, G = E.filter (pB R) := ⟨_, rfl⟩
  rw [← hG] at hown hnil
  have HG : Hid (G = E.filter (pB R)) := hG
  have HGC : Hid (cnt E R rs.length = G.length) := by
    show cnt E R rs.length = _
    rw [← HEL.out, cnt_all, hG]
  clear HC12 HEC hb14 hb5 hG
  by_cases hG0 : G = []
  · have hv := hnil hG0
    subst hv
    have HGC0 : Hid (cnt E R rs.length = 0) := by
      show cnt E R rs.length = 0
      rw [HGC.out, hG0]; rfl
    have hq := fun (wx : World) (a : Option Addr) (n c : Nat) => Lib.run_eql_slice_nil (P := Try.prog) wx 28 32 a n c 0 0 Try.underlying28
    clear hown hnil hG0
    go_wp2
    go_loop [13, 14] (fun v13 v14 => CRel E R rs.length v13 v14) (fun _ i => rs.length - (intOf i).toNat)
    case atStart => exact ⟨0, Nat.zero_le _, rfl, by rw [cnt_zero]; rfl⟩
    case round =>
      obtain ⟨k, hk, rfl, rfl⟩ := hrel
      have hcl := cnt_le E R k
      by_cases hlt : k < rs.length
      · obtain ⟨_, _, hcz⟩ := HEC5.out k (by rw [HEL.out]; exact hlt)
        have hs := cnt_succ E R k (by rw [HEL.out]; exact hlt)
        obtain ⟨z, hz⟩ : ∃ z, z = (E.getD k Ent.nought).r := ⟨_, rfl⟩
        rw [← hz] at hcz
        have hp : pB R (E.getD k Ent.nought) = decide (z ≤ R) := by rw [hz]; rfl
        rw [hp] at hs
        have HS : Hid (cnt E R (k + 1) = cnt E R k + if decide (z ≤ R) then 1 else 0) := hs
        clear hz hs hp
        by_cases hzR : z ≤ R
        · have HS1 : Hid (cnt E R (k + 1) = cnt E R k + 1) := by
            show cnt E R (k + 1) = _
            rw [HS.out, if_pos (decide_eq_true hzR)]
          clear HS
          go_wp2
          go_round
          case rel => first | exact ⟨k + 1, by omega, by go_num, by rw [HS1.out]; go_num⟩ | ((repeat apply Exists.intro); refine ⟨?_, rfl⟩; exact ⟨k + 1, by omega, by go_num, by rw [HS1.out]; go_num⟩)
          case measure => simp [intOf]; omega
        · have HS1 : Hid (cnt E R (k + 1) = cnt E R k) := by
            show cnt E R (k + 1) = _
            rw [HS.out, decide_eq_false hzR]; rfl
          clear HS
          go_wp2
          go_round
          case rel => first | exact ⟨k + 1, by omega, by go_num, by rw [HS1.out]⟩ | ((repeat apply Exists.intro); refine ⟨?_, rfl⟩; exact ⟨k + 1, by omega, by go_num, by rw [HS1.out]⟩)
          case measure => simp [intOf]; omega
      · have hke : k = rs.length := by omega
        have e0 : cnt E R k = 0 := by rw [hke]; exact HGC0.out
        rw [e0]
        clear e0 hcl
        go_wp2
        go_ret
        exact ⟨by simp, HB5⟩
  · obtain ⟨gg, cg, rfl, hgg, hGC⟩ := upTo_open hown hG0
    have hGp : 0 < G.length := List.length_pos_iff.2 hG0
    have HGCs : Hid (EntCells w5 gg G) := hGC
    have hg0 : ((G.length : Int) == 0) = false := by simp; omega
    clear hown hnil hG0 hGC
    go_wp2
    go_loop [13, 14] (fun v13 v14 => CRel E R rs.length v13 v14) (fun _ i => rs.length - (intOf i).toNat)
    case atStart => exact ⟨0, Nat.zero_le _, rfl, by rw [cnt_zero]; rfl⟩
    case round =>
      obtain ⟨k, hk, rfl, rfl⟩ := hrel
      have hcl := cnt_le E R k
      by_cases hlt : k < rs.length
      · obtain ⟨_, _, hcz⟩ := HEC5.out k (by rw [HEL.out]; exact hlt)
        have hs := cnt_succ E R k (by rw [HEL.out]; exact hlt)
        obtain ⟨z, hz⟩ : ∃ z, z = (E.getD k Ent.nought).r := ⟨_, rfl⟩
        rw [← hz] at hcz
        have hp : pB R (E.getD k Ent.nought) = decide (z ≤ R) := by rw [hz]; rfl
        rw [hp] at hs
        have HS : Hid (cnt E R (k + 1) = cnt E R k + if decide (z ≤ R) then 1 else 0) := hs
        clear hz hs hp
        by_cases hzR : z ≤ R
        · have HS1 : Hid (cnt E R (k + 1) = cnt E R k + 1) := by
            show cnt E R (k + 1) = _
            rw [HS.out, if_pos (decide_eq_true hzR)]
          clear HS
          go_wp2
          go_round
          case rel => first | exact ⟨k + 1, by omega, by go_num, by rw [HS1.out]; go_num⟩ | ((repeat apply Exists.intro); refine ⟨?_, rfl⟩; exact ⟨k + 1, by omega, by go_num, by rw [HS1.out]; go_num⟩)
          case measure => simp [intOf]; omega
        · have HS1 : Hid (cnt E R (k + 1) = cnt E R k) := by
            show cnt E R (k + 1) = _
            rw [HS.out, decide_eq_false hzR]; rfl
          clear HS
          go_wp2
          go_round
          case rel => first | exact ⟨k + 1, by omega, by go_num, by rw [HS1.out]⟩ | ((repeat apply Exists.intro); refine ⟨?_, rfl⟩; exact ⟨k + 1, by omega, by go_num, by rw [HS1.out]⟩)
          case measure => simp [intOf]; omega
      · have hke : k = rs.length := by omega
        have e0 : cnt E R k = G.length := by rw [hke]; exact HGC.out
        have hGn : G.length ≤ rs.length := by rw [← HGC.out]; exact cnt_le E R _
        rw [e0]
        clear e0 hcl
        go_wp2
        go_loopw [15, 16] (fun v15 v16 wr => MRel E R rs.length G.length w5 v15 v16 wr) (fun _ i _ => G.length - (intOf i).toNat)
        case atStart => exact ⟨0, 0, Nat.zero_le _, Nat.zero_le _, rfl, rfl, cnt_zero E R, Below.refl _ _⟩
        case round =>
          obtain ⟨i, j, hi, hj, rfl, rfl, hij, hnx⟩ := hrel
          by_cases hlt : i < G.length
          · obtain ⟨_, _, hcz⟩ := HGCs.out.below hnx hgg i hlt
            have hle : (G.getD i Ent.nought).r ≤ R := by
              have := got_le E R i (by rw [← HG.out]; exact hlt)
              rw [← HG.out] at this; exact this
            have hle0 := hle
            obtain ⟨z, hz⟩ : ∃ z, z = (G.getD i Ent.nought).r := ⟨_, rfl⟩
            rw [← hz] at hcz hle
            have HIJ : Hid (cnt E R j = i) := hij
            clear hz hij
            go_wp2
            have HLE : Hid ((G.getD i Ent.nought).r ≤ R) := hle0
            go_loopw [15] (fun v15 wr => JRel E R rs.length i w5 v15 wr) (fun j _ => rs.length - (intOf j).toNat)
            case atStart => exact ⟨j, hj, rfl, HIJ.out, hnx⟩
            case round =>
              obtain ⟨j, hj, rfl, hij, hnx⟩ := hrel
              have hjl : j < rs.length := by
                rcases Nat.lt_or_ge j rs.length with h | h
                · exact h
                · have : j = rs.length := by omega
                  rw [this, HGC.out] at hij; omega
              have hd : decide ((j : Int) < (rs.length : Int)) = true := decide_eq_true (by omega)
              obtain ⟨ec0, ec1, ec2⟩ := HEC5.out.below hnx hg5 j (by rw [HEL.out]; exact hjl)
              obtain ⟨gc0, gc1, gc2⟩ := HGCs.out.below hnx hgg i hlt
              have HS := same13_any (E.getD j Ent.nought) (G.getD i Ent.nought)
              have HCS : Hid (cnt E R (j + 1) = cnt E R j + if pB R (E.getD j Ent.nought) then 1 else 0) := cnt_succ E R j (by rw [HEL.out]; exact hjl)
              have HIJ : Hid (cnt E R j = i) := hij
              by_cases hp : pB R (E.getD j Ent.nought) = true
              · have hgot := (got_at E R j (by rw [HEL.out]; exact hjl) hp).2
                rw [hij, ← HG.out] at hgot
                have hss : sameE (E.getD j Ent.nought) (G.getD i Ent.nought) = true := by rw [hgot]; exact same_self _
                have HC1 : Hid (cnt E R (j + 1) = i + 1) := by
                  show cnt E R (j + 1) = i + 1
                  rw [HCS.out, hp, HIJ.out]; rfl
                rw [hss] at HS
                obtain ⟨⟨x1, y1, z1⟩, he⟩ : ∃ e, e = E.getD j Ent.nought := ⟨_, rfl⟩
                obtain ⟨⟨x2, y2, z2⟩, he2⟩ : ∃ e, e = G.getD i Ent.nought := ⟨_, rfl⟩
                rw [← he] at HS ec0 ec1 ec2
                rw [← he2] at HS gc0 gc1 gc2
                simp only at HS ec0 ec1 ec2 gc0 gc1 gc2
                clear he he2 hgot hss hp hij HCS
                go_wp2
                refine region_tail 13 (by kernel_rfl) (by kernel_rfl) ?_
                simp only [List.take_succ_cons, List.take_zero, List.drop_succ_cons, List.drop_zero]
                iterate 13 still_step
                refine wpStill_nil ?_
                go_wp2_with (go_at_call 13; refine (HS _).mono ?_; rintro e w6 ⟨rfl, hb6⟩)
                have hb7 : Below w5.heap.size w5 w6 := hnx.drew.trans (hb6.mono hnx.size)
                refine ⟨⟨i + 1, j + 1, by omega, by omega, by go_num, by go_num, HC1.out, hb7⟩, ?_⟩
                simp [intOf]; omega
              · have hne : (E.getD j Ent.nought).r ≠ (G.getD i Ent.nought).r := by
                  have h1 : ¬ (E.getD j Ent.nought).r ≤ R := fun h => hp (decide_eq_true h)
                  have := HLE.out
                  omega
                have hss := same_not _ _ hne
                have HC1 : Hid (cnt E R (j + 1) = i) := by
                  show cnt E R (j + 1) = i
                  rw [HCS.out, if_neg hp, HIJ.out]; rfl
                rw [hss] at HS
                obtain ⟨⟨x1, y1, z1⟩, he⟩ : ∃ e, e = E.getD j Ent.nought := ⟨_, rfl⟩
                obtain ⟨⟨x2, y2, z2⟩, he2⟩ : ∃ e, e = G.getD i Ent.nought := ⟨_, rfl⟩
                rw [← he] at HS ec0 ec1 ec2
                rw [← he2] at HS gc0 gc1 gc2
                simp only at HS ec0 ec1 ec2 gc0 gc1 gc2
                clear he he2 hne hss hp hij HCS
                go_wp2
                refine region_tail 13 (by kernel_rfl) (by kernel_rfl) ?_
                simp only [List.take_succ_cons, List.take_zero, List.drop_succ_cons, List.drop_zero]
                iterate 13 still_step
                refine wpStill_nil ?_
                go_wp2_with (go_at_call 13; refine (HS _).mono ?_; rintro e w6 ⟨rfl, hb6⟩)
                have hb7 : Below w5.heap.size w5 w6 := hnx.drew.trans (hb6.mono hnx.size)
                go_roundw
                case rel => exact ⟨j + 1, by omega, by go_num, HC1.out, hb7⟩
                case measure => simp [intOf]; omega
          · go_wp2
            go_ret
            exact ⟨rfl, HB5.trans (hnx.mono HB5.size)⟩

theorem qexact3_walk (a1 : Option Addr) (l1 c1 : Nat) (ks : List ByteArray) (a2 : Option Addr) (l2 c2 : Nat) (vs : List ByteArray) (a3 : Option Addr) (l3 c3 : Nat) (rs : List Int) (q R : Int) (w : World)
    (hk : IsStrs w a1 l1 c1 ks) (hv : IsStrs w a2 l2 c2 vs) (hr : IsInts w a3 l3 c3 rs) (_ : (Lit.int .i64 q).wf = true) (_ : (Lit.int .i64 R).wf = true) :
    Calls Try.prog 3 #[.slice a1 l1 c1, .slice a2 l2 c2, .slice a3 l3 c3, .int .i64 q, .int .i64 R] w fun e w' => e = .returned (.bool true) ∧ Below w.heap.size w w' := by
  by_cases h : 65536 < ks.length ∨ 65536 < vs.length ∨ 65536 < rs.length
  · exact qexact3_out a1 a2 a3 l1 l2 l3 c1 c2 c3 ks vs rs q R w hk hv hr h
  · exact qexact3_in a1 a2 a3 l1 l2 l3 c1 c2 c3 ks vs rs q R w hk hv hr (by omega) (by omega) (by omega)

end Go.Proofs.Qxb6600318a
