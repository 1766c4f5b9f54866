/-
  THE WALK OF (*packedStrings).scan AND ZZPackedScan.
-/
import Derived.Test.Qxb6600267aScan
namespace Go.Proofs.Qxb6600267a
open Go.RowKit

/-- compareFrom, said of the whole string. -/
theorem cmp_cur (cur : List UInt8) (rest s : ByteArray) (S : Nat) (hr : rest.data.toList = cur.drop S) (ht : cur.take S = s.data.toList.take S) (hc : S ≤ cur.length) (hs : S ≤ s.size) :
    S + Pk.cp rest.data.toList (s.data.toList.drop S) = Pk.cp cur s.data.toList ∧ cmpB rest s S (Pk.cp rest.data.toList (s.data.toList.drop S)) = Pk.ord cur s.data.toList := by
  have h1 := Pk.cp_shift S cur s.data.toList ht hc (by rw [str_len]; exact hs)
  rw [hr]
  refine ⟨h1.symm, ?_⟩
  rw [Pk.ord_char]
  unfold cmpB
  rw [h1, hr]
  have hl : rest.size = cur.length - S := by rw [← str_len, hr, List.length_drop]
  have hg : (cur.drop S).getD (Pk.cp (cur.drop S) (s.data.toList.drop S)) 0 = cur.getD (S + Pk.cp (cur.drop S) (s.data.toList.drop S)) 0 := by
    simp only [List.getD, List.getElem?_drop]
  rw [hg, str_len]
  have e1 : (Pk.cp (cur.drop S) (s.data.toList.drop S) = rest.size) = (S + Pk.cp (cur.drop S) (s.data.toList.drop S) = cur.length) := by
    apply propext; omega
  simp only [e1]

/-- What scan has found of the strings from 'fr' hi 'hi'. -/
def Found (ss : List ByteArray) (s : ByteArray) (fr hi r : Nat) (f : Bool) : Prop :=
  fr ≤ r ∧ r ≤ hi ∧ (∀ j, fr ≤ j → j < r → Op.bytesLess (Pk.st ss j) s.data.toList = true) ∧ (r < hi → Op.bytesLess (Pk.st ss r) s.data.toList = false ∧ f = decide (Pk.st ss r = s.data.toList)) ∧ (r = hi → f = false)

/-- The scan at its m-th string. -/
def ScanAt (ss : List ByteArray) (s : ByteArray) (m0 fr m M : Nat) (O : Int) : Prop :=
  (m = m0 → M = 0 ∧ O = 0) ∧ (m0 < m → M = Pk.cp (Pk.st ss (m - 1)) s.data.toList ∧ O = Pk.ord (Pk.st ss (m - 1)) s.data.toList) ∧ ∀ j, fr ≤ j → j < m → Op.bytesLess (Pk.st ss j) s.data.toList = true

theorem ScanAt.next {ss : List ByteArray} {s : ByteArray} {m0 fr m M : Nat} {O : Int} (h : ScanAt ss s m0 fr m M O) (hm : m0 ≤ m) (hl : fr ≤ m → Pk.ord (Pk.st ss m) s.data.toList < 0) :
    ScanAt ss s m0 fr (m + 1) (Pk.cp (Pk.st ss m) s.data.toList) (Pk.ord (Pk.st ss m) s.data.toList) := by
  refine ⟨fun e => by omega, fun _ => ⟨rfl, rfl⟩, fun j h1 h2 => ?_⟩
  by_cases e : j = m
  · subst e; exact (Pk.ord_neg _ _).1 (hl h1)
  · exact h.2.2 j h1 (by omega)

/-- The string shares no more than what is matched: its own head is s's. -/
theorem ScanAt.head {ss : List ByteArray} {s : ByteArray} {m0 fr m M pb : Nat} {O cp : Int} (h : ScanAt ss s m0 fr m M O) (hm : m0 ≤ m) (h0 : Pk.sh ss pb cp m0 = 0) (hS : Pk.sh ss pb cp m ≤ M) :
    (Pk.st ss m).take (Pk.sh ss pb cp m) = s.data.toList.take (Pk.sh ss pb cp m) ∧ Pk.sh ss pb cp m ≤ s.size := by
  by_cases e : m = m0
  · subst e; rw [h0]; simp
  · obtain ⟨h1, _⟩ := h.2.1 (by omega)
    rw [h1] at hS
    rw [← Pk.sh_take, Pk.cp_take _ _ _ hS]
    refine ⟨rfl, Nat.le_trans hS ?_⟩
    rw [← str_len]; exact Pk.cp_le_right _ _

/-- It shares more: it compares alike. -/
theorem ScanAt.keep {ss : List ByteArray} {s : ByteArray} {m0 fr m M pb : Nat} {O cp : Int} (h : ScanAt ss s m0 fr m M O) (hm : m0 ≤ m) (h0 : Pk.sh ss pb cp m0 = 0) (hS : ¬ Pk.sh ss pb cp m ≤ M) :
    M = Pk.cp (Pk.st ss m) s.data.toList ∧ O = Pk.ord (Pk.st ss m) s.data.toList := by
  by_cases e : m = m0
  · subst e; rw [h0] at hS; omega
  · obtain ⟨h1, h2⟩ := h.2.1 (by omega)
    have := Pk.ord_keep (Pk.sh ss pb cp m) (Pk.st ss m) (Pk.st ss (m - 1)) s.data.toList (Pk.sh_take ss pb cp m) (Pk.sh_le ss pb cp m) (Pk.sh_le' ss pb cp m) (by omega)
    exact ⟨by rw [this.1, h1], by rw [this.2, h2]⟩

/-- The loop's relation. -/
def ScanRel (ss : List ByteArray) (s : ByteArray) (pb : Nat) (cp : Int) (m0 fr hi : Nat) (w : World) (v11 v12 v13 v14 : Value) (wr : World) : Prop :=
  ∃ (m q M nd : Nat) (O : Int), v14 = .int .i64 m ∧ m0 ≤ m ∧ m ≤ hi ∧ v11 = .int .i64 (q : Nat) ∧ Hid (q = Pk.pos ss pb cp m) ∧ v12 = .int .i64 (M : Nat) ∧ v13 = .int .i64 O ∧ ScanAt ss s m0 fr m M O ∧ wr = w.drewN nd

set_option maxHeartbeats 1600000 in
set_option maxRecDepth 100000 in
theorem scan24_any (P g n pb cap : Nat) (ss : List ByteArray) (cp : Int) (fr hi : Nat) (s : ByteArray) (w : World) (hL : Laid w P g n pb cap ss cp) (hpb : 1 ≤ pb) (hpb' : pb ≤ 9223372036854775807)
    (hn : 16 * ss.length + Pk.tot ss ss.length ≤ 1048576) (hft : fr < hi) (hto : hi ≤ ss.length) (hs : s.size ≤ 1048576) :
    Calls Try.prog 24 #[.pointer (some ⟨P, 0, none⟩), .int .i64 fr, .int .i64 hi, .string s] w fun e w' => ∃ (r : Nat) (f : Bool), e = .returned (.tuple #[.int .i64 r, .bool f]) ∧ Found ss s fr hi r f ∧ ∃ n, w' = w.drewN n := by
  have hq : fr / pb * pb ≤ fr := Nat.div_mul_le_self fr pb
  obtain ⟨hb1, hb2⟩ := Pk.blk_get ss pb cp hpb ss.length fr (by omega)
  have hc1 := hL.text
  have hc2 := hL.blocks
  have hc4 := hL.per
  have hc5 := hL.start (fr / pb) hb1
  have hgd : (Pk.blk ss pb cp ss.length).getD (fr / pb) 0 = Pk.pos ss pb cp (fr / pb * pb) := by simp [List.getD, hb2]
  rw [hgd] at hc5
  obtain ⟨p0, hp0⟩ : ∃ p0, p0 = Pk.pos ss pb cp (fr / pb * pb) := ⟨_, rfl⟩
  rw [← hp0] at hc5
  obtain ⟨m0, hm0⟩ : ∃ m0, m0 = fr / pb * pb := ⟨_, rfl⟩
  obtain ⟨T, hT⟩ : ∃ T : ByteArray, T = ⟨(Pk.buf ss pb cp ss.length).toArray⟩ := ⟨_, rfl⟩
  rw [← hT] at hc1
  obtain ⟨L, hLn⟩ : ∃ L, L = (Pk.blk ss pb cp ss.length).length := ⟨_, rfl⟩
  rw [← hLn] at hc2 hb1
  have hLb : L ≤ 65536 := by have := Pk.blk_len ss pb cp ss.length; omega
  have HSH : Hid (Pk.sh ss pb cp m0 = 0) := Pk.sh_zero _ _ _ _ (by rw [hm0]; exact Nat.mul_mod_left _ _)
  have hpp0 : p0 ≤ 1048576 := by
    have := Pk.pos_le ss pb cp (fr / pb * pb)
    have := Pk.tot_mono ss (fr / pb * pb) ss.length (by omega)
    omega
  have hib : (fr : Int) / (pb : Int) < (L : Int) := by exact_mod_cast hb1
  have hib0 : (0 : Int) ≤ (fr : Int) / (pb : Int) := Int.ediv_nonneg (by omega) (by omega)
  have hmI : (fr : Int) / (pb : Int) * (pb : Int) = (m0 : Nat) := by rw [hm0]; simp
  have hm0f : m0 ≤ fr := by omega
  have HT : Hid (T = ⟨(Pk.buf ss pb cp ss.length).toArray⟩) := hT
  have HP0 : Hid (p0 = Pk.pos ss pb cp m0) := by rw [hm0]; exact hp0
  have hd0 : ¬ hi ≤ fr := by omega
  clear hgd hb2 hp0 hT hLn hq hm0 hL
  go_enter Try.func24, Try.ntmps24
  go_wp2
  go_loopw [11, 12, 13, 14] (fun v11 v12 v13 v14 wr => ScanRel ss s pb cp m0 fr hi w v11 v12 v13 v14 wr)
    (fun _ _ _ i _ => hi - (intOf i).toNat)
  case atStart =>
    refine ⟨m0, p0, 0, 0, 0, ?_, Nat.le_refl _, by omega, rfl, HP0, rfl, rfl, ⟨fun _ => ⟨rfl, rfl⟩, fun h => by omega, fun j h1 h2 => by omega⟩, rfl⟩
    first | rfl | simp [hmI]
  case round =>
    obtain ⟨m, q, M, nd, O, rfl, hm, hmt, rfl, HP, rfl, rfl, hSc, rfl⟩ := hrel
    by_cases hlt : m < hi
    · obtain ⟨S, hS⟩ : ∃ S, S = Pk.sh ss pb cp m := ⟨_, rfl⟩
      obtain ⟨q', hq'⟩ : ∃ q', q' = Pk.pos ss pb cp (m + 1) := ⟨_, rfl⟩
      obtain ⟨x, hx⟩ : ∃ x : ByteArray, x = ⟨((Pk.st ss m).drop (Pk.sh ss pb cp m)).toArray⟩ := ⟨_, rfl⟩
      have HC : ∀ wx : World, wx.cell? ⟨P, 0, none⟩ = some (.string T) → Calls Try.prog 26 #[.pointer (some ⟨P, 0, none⟩), .int .i64 (q : Nat)] wx fun e w' => e = .returned (.tuple #[.int .i64 (S : Nat), .string x, .int .i64 (q' : Nat)]) ∧ ∃ n, w' = wx.drewN n := by
        intro wx h0
        have := entry_pk P ss pb cp m wx hn (by omega) (by rw [← HT.out]; exact h0) (q : Nat) (q' : Nat) (by rw [HP.out]) (by rw [hq'])
        rw [← hx, ← hS] at this
        exact this
      have hSl := Pk.sh_le ss pb cp m
      have hSm := st_le ss m (by omega)
      have hxs : x.data.toList = (Pk.st ss m).drop S := by rw [hx, hS]
      have hxl : x.size ≤ 1048576 := by rw [← str_len, hxs, List.length_drop]; omega
      have HS : Hid (S = Pk.sh ss pb cp m) := hS
      have HX : Hid (x.data.toList = (Pk.st ss m).drop S) := hxs
      have HP' : Hid (q' = Pk.pos ss pb cp (m + 1)) := hq'
      have hSb : S ≤ 1048576 := by omega
      obtain ⟨M', hM'⟩ : ∃ M', M' = Pk.cp (Pk.st ss m) s.data.toList := ⟨_, rfl⟩
      obtain ⟨O', hO'⟩ : ∃ O', O' = Pk.ord (Pk.st ss m) s.data.toList := ⟨_, rfl⟩
      have HM' : Hid (M' = Pk.cp (Pk.st ss m) s.data.toList) := hM'
      have HO' : Hid (O' = Pk.ord (Pk.st ss m) s.data.toList) := hO'
      clear hS hq' hx hxs hSl hSm hM' hO'
      go_upto_if 55 with (go_at_call 26; refine (HC _ (by simpa using hc1)).mono ?_; rintro e w1 ⟨rfl, nd2, rfl⟩)
      go_cut [12, 13] (fun v12 v13 wx => v12 = .int .i64 (M' : Nat) ∧ v13 = .int .i64 O' ∧ ∃ n3, wx = w.drewN n3)
      case first =>
        by_cases hSM : S ≤ M
        · obtain ⟨hh1, hh2⟩ := hSc.head hm HSH.out (by rw [← HS.out]; exact hSM)
          rw [← HS.out] at hh1 hh2
          obtain ⟨D, hD⟩ : ∃ D, D = Pk.cp x.data.toList (s.data.toList.drop S) := ⟨_, rfl⟩
          have hcc := cmp_cur (Pk.st ss m) x s S HX.out hh1 (by rw [HS.out]; exact Pk.sh_le ss pb cp m) hh2
          rw [← hD, ← HM'.out, ← HO'.out] at hcc
          have HC2 : ∀ wx : World, Calls Try.prog 27 #[.string x, .string s, .int .i64 (S : Nat)] wx fun e w' => e = .returned (.tuple #[.int .i64 (M' : Nat), .int .i64 O']) ∧ ∃ n, w' = wx.drewN n := by
            intro wx
            have := cmp27_any x s S D wx hxl hs hh2 hD
            rw [hcc.1, hcc.2] at this
            exact this
          clear hcc hD hh1 hh2
          go_wp2_with (go_at_call 27; refine (HC2 _).mono ?_; rintro e w1 ⟨rfl, nd3, rfl⟩)
          go_meet
          exact ⟨rfl, rfl, _, rfl⟩
        · obtain ⟨hk1, hk2⟩ := hSc.keep hm HSH.out (by rw [← HS.out]; exact hSM)
          rw [← HM'.out] at hk1
          rw [← HO'.out] at hk2
          subst hk1 hk2
          go_wp2
          go_meet
          exact ⟨rfl, rfl, _, rfl⟩
      case rest =>
        obtain ⟨rfl, rfl, n3, rfl⟩ := hcut
        clear HC
        have hNx := fun h => hSc.next (fr := fr) hm h
        rw [← HM'.out, ← HO'.out] at hNx
        by_cases hge : fr ≤ m
        · have d1 : decide ((fr : Int) ≤ (m : Int)) = true := decide_eq_true (by omega)
          by_cases hO : 0 ≤ O'
          · have d2 : decide ((0 : Int) ≤ O') = true := decide_eq_true hO
            have hF : Found ss s fr hi m (O' == 0) := by
              refine ⟨hge, hmt, hSc.2.2, fun _ => ⟨?_, ?_⟩, fun h => by omega⟩
              · cases e : Op.bytesLess (Pk.st ss m) s.data.toList with
                | false => rfl
                | true =>
                  have := (Pk.ord_neg _ _).2 e
                  rw [← HO'.out] at this
                  omega
              · have e := Pk.ord_zero (Pk.st ss m) s.data.toList
                rw [← HO'.out] at e
                by_cases e0 : O' = 0
                · rw [e0, decide_eq_true (e.1 e0)]; rfl
                · rw [decide_eq_false (fun g => e0 (e.2 g))]; simpa using e0
            clear hNx hSc
            go_wp2
            go_ret2
            exact ⟨m, (O' == 0), rfl, hF, _, rfl⟩
          · have d2 : decide ((0 : Int) ≤ O') = false := decide_eq_false hO
            have hSc' := hNx (fun _ => by omega)
            clear hNx hSc
            go_wp2
            go_roundw
            case rel => first | exact ⟨m + 1, q', M', n3, O', by go_num, by omega, by omega, rfl, HP', rfl, rfl, hSc', rfl⟩ | exact ⟨_, _, _, _, _, .int .i64 ((m : Int) + 1), ⟨m + 1, q', M', n3, O', by go_num, by omega, by omega, rfl, HP', rfl, rfl, hSc', rfl⟩, rfl, rfl, rfl, rfl, rfl, rfl⟩ | ((repeat apply Exists.intro); refine ⟨?_, rfl⟩; exact ⟨m + 1, q', M', n3, O', by go_num, by omega, by omega, rfl, HP', rfl, rfl, hSc', rfl⟩)
            case measure => simp [intOf]; omega
        · have d1 : decide ((fr : Int) ≤ (m : Int)) = false := decide_eq_false (by omega)
          have hSc' := hNx (fun h => by omega)
          clear hNx hSc
          go_wp2
          go_roundw
          case rel => first | exact ⟨m + 1, q', M', n3, O', by go_num, by omega, by omega, rfl, HP', rfl, rfl, hSc', rfl⟩ | exact ⟨_, _, _, _, _, .int .i64 ((m : Int) + 1), ⟨m + 1, q', M', n3, O', by go_num, by omega, by omega, rfl, HP', rfl, rfl, hSc', rfl⟩, rfl, rfl, rfl, rfl, rfl, rfl⟩ | ((repeat apply Exists.intro); refine ⟨?_, rfl⟩; exact ⟨m + 1, q', M', n3, O', by go_num, by omega, by omega, rfl, HP', rfl, rfl, hSc', rfl⟩)
          case measure => simp [intOf]; omega
    · have hF : Found ss s fr hi hi false := ⟨by omega, Nat.le_refl _, fun j h1 h2 => hSc.2.2 j h1 (by omega), fun h => by omega, fun _ => rfl⟩
      clear hSc
      go_wp2
      go_ret2
      exact ⟨hi, false, rfl, hF, _, rfl⟩

set_option maxHeartbeats 800000 in
set_option maxRecDepth 100000 in
theorem zzscan15_any (g pb cap n : Nat) (ss : List ByteArray) (cp : Int) (fr hi : Nat) (s : ByteArray) (w : World) (hpb : 1 ≤ pb) (hpb' : pb ≤ 9223372036854775807)
    (hn : 16 * ss.length + Pk.tot ss ss.length ≤ 1048576) (hft : fr < hi) (hto : hi ≤ ss.length) (hs : s.size ≤ 1048576) (hg : g < w.heap.size)
    (hst : ∀ j, j < (Pk.blk ss pb cp ss.length).length → w.cell? ⟨g, j, none⟩ = some (.int .u32 ((Pk.blk ss pb cp ss.length).getD j 0 : Nat))) :
    Calls Try.prog 15 #[.string ⟨(Pk.buf ss pb cp ss.length).toArray⟩, .slice (some ⟨g, 0, none⟩) (Pk.blk ss pb cp ss.length).length cap, .int .i64 n, .int .i64 pb, .int .i64 fr, .int .i64 hi, .string s] w fun e w' =>
      ∃ (r : Nat) (f : Bool), e = .returned (.tuple #[.int .i64 r, .bool f]) ∧ Found ss s fr hi r f ∧ Below w.heap.size w w' := by
  obtain ⟨T, hT⟩ : ∃ T : ByteArray, T = ⟨(Pk.buf ss pb cp ss.length).toArray⟩ := ⟨_, rfl⟩
  obtain ⟨L, hLn⟩ : ∃ L, L = (Pk.blk ss pb cp ss.length).length := ⟨_, rfl⟩
  have hL : Laid (w.alloc (.cells #[.string T, .slice (some ⟨g, 0, none⟩) L cap, .int .i64 n, .int .i64 pb] 44)) w.heap.size g n pb cap ss cp := by
    rw [hT, hLn]
    refine ⟨?_, ?_, ?_, ?_, fun j hj => ?_⟩
    · simp
    · simp
    · simp
    · simp
    · rw [Below.cell ((Below.refl w.heap.size w).alloc (Nat.le_refl _) _) (by exact hg)]; exact hst j hj
  have HC := scan24_any w.heap.size g n pb cap ss cp fr hi s _ hL hpb hpb' hn hft hto hs
  rw [← hT, ← hLn]
  clear hst hL hT hLn
  go_enter Try.func15, Try.ntmps15
  go_wp2_with (go_at_call 24; refine HC.mono ?_; rintro e w2 ⟨r, f, rfl, hF, nd, rfl⟩)
  go_ret2
  exact ⟨r, f, rfl, hF, below_drewN ((Below.refl w.heap.size w).alloc (Nat.le_refl _) _) _⟩

/-- Nothing to look through: the answer is 'to', not found; no memory is read but the struct's own block is laid. -/
theorem zzscan15_empty (t : ByteArray) (a : Option Addr) (l c : Nat) (n pb fr hi : Int) (s : ByteArray) (w : World) (h : ¬ fr < hi) :
    Calls Try.prog 15 #[.string t, .slice a l c, .int .i64 n, .int .i64 pb, .int .i64 fr, .int .i64 hi, .string s] w fun e w' => e = .returned (.tuple #[.int .i64 hi, .bool false]) ∧ Below w.heap.size w w' := by
  have hc : hi ≤ fr := by omega
  go_enter Try.func15, Try.ntmps15
  go_wp2
  go_ret2
  exact ⟨rfl, (Below.refl w.heap.size w).alloc (Nat.le_refl _) _⟩

end Go.Proofs.Qxb6600267a
