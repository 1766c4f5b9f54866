/-
  THE WALK OF zzb1Pack.
-/
import Derived.Test.Qxb6600267aPackWalk
import Derived.Deep.DeepCutAuto
namespace Go.Proofs.Qxb6600267a
open Go.RowKit

theorem Try.info37 : (Try.prog.info? 37).map (fun i => (i.zero, i.size, i.bytes)) = some (some (.int .u32 0), 1, 4) := by kernel_rfl

/-- Block starts as cells. -/
def blc (l : List Nat) : List Value := l.map fun p => Value.int .u32 (p : Nat)

theorem hdr_or (s r : Int) (h1 : 0 ≤ s) (h2 : s < 15) (h3 : 0 ≤ r) (h4 : r < 16) : bits .or .i64 (s * 16) r = s * 16 + r :=
  bits_join .i64 8 (by decide) (fun n h0 h1 => by rw [IntKind.wrap_i64]; omega) 4 (s * 16) r (by omega) (by omega) (by omega) h3 (by omega) (by omega)

theorem owns_slice {w : World} {base : Nat} {e : TypeId} {size : Nat} {v : Value} {n : Nat} {xs : List Value} (h : w.ownsRow base e size v n xs) : ∃ a c, v = .slice a n c := by
  rcases h.2 with ⟨rfl, rfl⟩ | ⟨g, cap, cur, rfl, _⟩
  · exact ⟨_, _, rfl⟩
  · exact ⟨_, _, rfl⟩

theorem uv22_int (base : Nat) (v : Value) (l : List UInt8) (n : Nat) (N : Int) (w : World) (v9 : Value) (n9 : Nat) (x9 : List Value) (hN : N = (n : Nat)) (h9 : w.ownsRow base 37 1 v9 n9 x9) (hown : w.ownsRow base 5 1 v l.length (byc l)) (hb : base ≤ w.heap.size) (hn' : n ≤ 1048576) (hl : l.length + 3 ≤ 2097152) :
    Calls Try.prog 22 #[v, .int .u64 N] w fun e w' => ∃ v', e = .returned v' ∧ w'.ownsRow base 5 1 v' (l ++ Pk.uv 3 n).length (byc (l ++ Pk.uv 3 n)) ∧ w'.ownsRow base 37 1 v9 n9 x9 ∧ Below base w w' := by
  subst hN
  exact uv22_any base v l 3 n w v9 n9 x9 h9 hown hb (show n < 128 ^ 4 by omega) hn' hl

/-- Do both counts fit into one byte? -/
def smallB (s n : Nat) : Bool := decide (s < 15 ∧ n < 16)

theorem blc_snoc (l : List Nat) (p : Nat) : blc (l ++ [p]) = blc l ++ [.int .u32 (p : Nat)] := by simp [blc]

set_option maxHeartbeats 1600000 in
set_option maxRecDepth 100000 in
theorem pack12_row (g cap : Nat) (ss : List ByteArray) (pb : Nat) (cp : Int) (w : World) (hpb : 1 ≤ pb) (hpb' : pb ≤ 9223372036854775807) (hcp : -9223372036854775808 ≤ cp) (hcp' : cp ≤ 9223372036854775807)
    (hg : g < w.heap.size) (hc : ∀ j, j < ss.length → w.cell? ⟨g, j, none⟩ = some (.string (ss.getD j ByteArray.empty))) (hn : 16 * ss.length + Pk.tot ss ss.length ≤ 1048576) :
    Calls Try.prog 12 #[.slice (some ⟨g, 0, none⟩) ss.length cap, .int .i64 pb, .int .i64 cp] w fun e w' => ∃ v, e = .returned (.tuple #[.string ⟨(Pk.buf ss pb cp ss.length).toArray⟩, v]) ∧
      w'.ownsRow w.heap.size 37 1 v (Pk.blk ss pb cp ss.length).length (blc (Pk.blk ss pb cp ss.length)) ∧ Below w.heap.size w w' := by
  obtain ⟨i0, hi, hz0, hz1, hz2⟩ := info_parts Try.info5
  obtain ⟨i1, hi', hy0, hy1, hy2⟩ := info_parts Try.info37
  go_enter Try.func12, Try.ntmps12
  go_wp2
  go_loopw [8, 9, 10] (fun v8 v9 i wr => ∃ (k : Nat), k ≤ ss.length ∧ i = .int .i64 k ∧ wr.ownsRow w.heap.size 5 1 v8 (Pk.buf ss pb cp k).length (byc (Pk.buf ss pb cp k)) ∧
      wr.ownsRow w.heap.size 37 1 v9 (Pk.blk ss pb cp k).length (blc (Pk.blk ss pb cp k)) ∧ Below w.heap.size w wr) (fun _ _ i _ => ss.length - (intOf i).toNat)
  case atStart => exact ⟨0, Nat.zero_le _, rfl, World.ownsRow_nil _ _ _ _, World.ownsRow_nil _ _ _ _, Below.refl _ _⟩
  case round =>
    obtain ⟨k, hk, rfl, h8, h9, hnx⟩ := hrel
    obtain ⟨a8, c8, rfl⟩ := owns_slice h8
    have hsz := hnx.size
    by_cases hlt : k < ss.length
    · have hcx : wr.cell? ⟨g, k, none⟩ = some (.string (ss.getD k ByteArray.empty)) := (hnx.cell (by exact hg)).trans (hc k hlt)
      obtain ⟨x, hx⟩ : ∃ x, x = ss.getD k ByteArray.empty := ⟨_, rfl⟩
      rw [← hx] at hcx
      have HX : Hid (x = ss.getD k ByteArray.empty) := hx
      have hxl : x.size = (Pk.st ss k).length := by rw [hx, st_size]
      have hT : Pk.tot ss (k + 1) ≤ Pk.tot ss ss.length := Pk.tot_mono ss (k + 1) ss.length (by omega)
      have hT1 : Pk.tot ss (k + 1) = Pk.tot ss k + (Pk.st ss k).length := rfl
      have hP := Pk.pos_le ss pb cp k
      have hb1 : (Pk.buf ss pb cp k).length + x.size + 7 * k ≤ 1048576 := by
        have : (Pk.buf ss pb cp k).length = Pk.pos ss pb cp k := rfl
        omega
      have hx1 : x.size ≤ 1048576 := by omega
      clear hx hxl hT hT1 hP
      go_upto_if 27 with fail
      go_cut [9, 12] (fun v9 v12 wx => ∃ S : Nat, v12 = .int .i64 (S : Nat) ∧ Hid (S = Pk.sh ss pb cp k) ∧ S ≤ x.size ∧ wx.ownsRow w.heap.size 5 1 (.slice a8 (Pk.buf ss pb cp k).length c8) (Pk.buf ss pb cp k).length (byc (Pk.buf ss pb cp k)) ∧
        wx.ownsRow w.heap.size 37 1 v9 (Pk.blk ss pb cp (k + 1)).length (blc (Pk.blk ss pb cp (k + 1))) ∧ Below w.heap.size w wx)
      case first =>
        by_cases hm : k % pb = 0
        · have hmb : ((k : Int) % (pb : Int) == 0) = true := by
            have : (k : Int) % (pb : Int) = 0 := by exact_mod_cast congrArg (Nat.cast : Nat → Int) hm
            simp [this]
          have HB : Hid (Pk.blk ss pb cp (k + 1) = Pk.blk ss pb cp k ++ [(Pk.buf ss pb cp k).length]) := by
            show Pk.blk ss pb cp (k + 1) = _
            simp only [Pk.blk]; rw [if_pos hm]; rfl
          have HS : Hid (Pk.sh ss pb cp k = 0) := Pk.sh_zero ss pb cp k hm
          have hbl := Pk.blk_len ss pb cp k
          have hsl := h8.1
          clear hm
          go_wp2_with (at_builtin; refine wpList_append_own _ rfl _ _ 26 rfl w.heap.size 37 i1 (.int .u32 0) 1 4 Try.underlying26 hi' hy0 hy1 hy2 rfl (by decide) _ _ _ rfl (h9.alloc _) ⟨wr.heap.size, 0, none⟩ 1 1 [.int .u32 (Pk.buf ss pb cp k).length] rfl rfl (cell_one_new _ _ _) ?c1 ?c2 ?c3 ?c4 ?_)
          case c1 => intro u hu; simp at hu; subst hu; rfl
          case c2 => unfold maxLen; omega
          case c3 => omega
          case c4 => simp; omega
          intro v' w1 hown' hgrow _
          have HBw : Below w.heap.size w w1 := (hnx.alloc (by omega) _).grown hgrow (by simp; omega) (fun g hg => (h9.lt g hg).1)
          have H8 := (h8.alloc _).kept hgrow (owns_apart h8 h9 (by decide))
          have H9 : w1.ownsRow w.heap.size 37 1 v' (Pk.blk ss pb cp (k + 1)).length (blc (Pk.blk ss pb cp (k + 1))) := by
            rw [HB.out, blc_snoc]; simpa using hown'
          clear hown' hgrow h8 h9 hnx
          go_wp2
          go_meet
          exact ⟨0, rfl, HS.out.symm, Nat.zero_le _, H8, H9, HBw⟩
        · have hmb : ((k : Int) % (pb : Int) == 0) = false := by
            have : ¬ (k : Int) % (pb : Int) = 0 := by intro e; exact hm (by exact_mod_cast e)
            simpa using this
          have hk0 : 1 ≤ k := by
            rcases Nat.eq_zero_or_pos k with e | e
            · subst e; simp at hm
            · exact e
          have hk0i : (0 : Int) ≤ (k : Int) - 1 := by omega
          have hcy : wr.cell? ⟨g, k - 1, none⟩ = some (.string (ss.getD (k - 1) ByteArray.empty)) := (hnx.cell (by exact hg)).trans (hc (k - 1) (by omega))
          obtain ⟨y, hy⟩ : ∃ y, y = ss.getD (k - 1) ByteArray.empty := ⟨_, rfl⟩
          rw [← hy] at hcy
          have hyl : y.size ≤ maxLen := by
            have h1 : y.size = (Pk.st ss (k - 1)).length := by rw [hy, st_size]
            have h2 : Pk.tot ss (k - 1 + 1) ≤ Pk.tot ss ss.length := Pk.tot_mono ss (k - 1 + 1) ss.length (by omega)
            have h3 : Pk.tot ss (k - 1 + 1) = Pk.tot ss (k - 1) + (Pk.st ss (k - 1)).length := rfl
            unfold maxLen; omega
          have hxm : x.size ≤ maxLen := by unfold maxLen; omega
          have HB : Hid (Pk.blk ss pb cp (k + 1) = Pk.blk ss pb cp k) := by
            show Pk.blk ss pb cp (k + 1) = _
            simp only [Pk.blk]; rw [if_neg hm]
          have HS : Hid (Pk.sh ss pb cp k = (min (Pk.cp y.data.toList x.data.toList : Int) cp).toNat) := by
            show Pk.sh ss pb cp k = _
            unfold Pk.sh; rw [if_neg hm, hy, HX.out]; rfl
          obtain ⟨C, hC⟩ : ∃ C, C = Pk.cp y.data.toList x.data.toList := ⟨_, rfl⟩
          have hCl : C ≤ x.size := by rw [hC]; exact Nat.le_trans (Pk.cp_le_right _ _) (by simp)
          rw [← hC] at HS
          have HC : ∀ wx : World, Calls Try.prog 21 #[.string y, .string x] wx fun e w' => e = .returned (.int .i64 (C : Nat)) ∧ ∃ n, w' = wx.drewN n := by
            intro wx; rw [hC]; exact cp21_any y x wx hyl hxm
          clear hm hy hyl hxm hC
          go_wp2_with (go_at_call 21; refine (HC _).mono ?_; rintro e w' ⟨rfl, nd, rfl⟩)
          all_goals
            go_meet
            exact ⟨(min (C : Int) cp).toNat, congrArg (Value.int .i64) (by omega), HS.out.symm, by omega, h8, by rw [HB.out]; exact h9, below_drewN hnx _⟩
      case rest =>
        obtain ⟨S, rfl, HS, hSx, h8, h9, hnx⟩ := hcut
        have hsz := hnx.size
        have hE : Hid ((Pk.buf ss pb cp (k + 1)) = (Pk.buf ss pb cp k ++ Pk.hdr S (x.size - S)) ++ (x.extract S x.size).data.toList) := by
          show Pk.buf ss pb cp (k + 1) = _
          have e1 : Pk.st ss k = x.data.toList := by rw [HX.out]; rfl
          have e2 : (Pk.st ss k).length = x.size := by rw [e1]; simp
          simp only [Pk.buf, Pk.ent]
          rw [← HS.out, e2, e1, extract_list, List.take_of_length_le (i := x.size - S) (by simp), List.append_assoc]
        clear hcx hc
        go_upto_region 16 with fail
        go_cut [56] (fun v wx => v = .bool (smallB S (x.size - S)) ∧ wx = wc)
        case first =>
          by_cases h15 : S < 15
          · have d1 : decide ((S : Int) < 15) = true := decide_eq_true (by omega)
            by_cases h16 : x.size - S < 16
            · have d2 : decide ((x.size : Int) - (S : Int) < 16) = true := decide_eq_true (by omega)
              go_wp2
              go_meet
              exact ⟨congrArg Value.bool (decide_eq_true (p := S < 15 ∧ x.size - S < 16) ⟨h15, h16⟩).symm, rfl⟩
            · have d2 : decide ((x.size : Int) - (S : Int) < 16) = false := decide_eq_false (by omega)
              go_wp2
              go_meet
              exact ⟨congrArg Value.bool (decide_eq_false (p := S < 15 ∧ x.size - S < 16) (by omega)).symm, rfl⟩
          · have d1 : decide ((S : Int) < 15) = false := decide_eq_false (by omega)
            go_wp2
            go_meet
            exact ⟨congrArg Value.bool (decide_eq_false (p := S < 15 ∧ x.size - S < 16) (by omega)).symm, rfl⟩
        case rest =>
        obtain ⟨rfl, rfl⟩ := hcut
        go_upto_if 56 with fail
        go_cut [8] (fun v8 wx => wx.ownsRow w.heap.size 5 1 v8 (Pk.buf ss pb cp k ++ Pk.hdr S (x.size - S)).length (byc (Pk.buf ss pb cp k ++ Pk.hdr S (x.size - S))) ∧
          wx.ownsRow w.heap.size 37 1 u9 (Pk.blk ss pb cp (k + 1)).length (blc (Pk.blk ss pb cp (k + 1))) ∧ Below w.heap.size w wx)
        case first =>
          by_cases hsm : S < 15 ∧ x.size - S < 16
          · have hd : smallB S (x.size - S) = true := decide_eq_true hsm
            rw [hd]
            have h15 : (S : Int) < 15 := by omega
            have h16 : (x.size : Int) - (S : Int) < 16 := by omega
            have hor := hdr_or S ((x.size : Int) - (S : Int)) (by omega) h15 (by omega) h16
            have HH : Hid (Pk.hdr S (x.size - S) = [UInt8.ofNat (S * 16 + (x.size - S))]) := by
              show Pk.hdr S (x.size - S) = _
              unfold Pk.hdr; rw [if_pos hsm]
            go_wp2_with (at_builtin; refine wpList_append_own _ rfl _ _ 36 rfl w.heap.size 5 i0 (.int .u8 0) 1 1 Try.underlying36 hi hz0 hz1 hz2 rfl (by decide) _ _ _ rfl (h8.alloc _) ⟨wc.heap.size, 0, none⟩ 1 1 [.int .u8 ((S : Int) * 16 + ((x.size : Int) - (S : Int)))] rfl rfl (cell_one_new _ _ _) ?e1 ?e2 ?e3 ?e4 ?_)
            case e1 => intro u hu; simp at hu; subst hu; rfl
            case e2 => unfold maxLen; omega
            case e3 => omega
            case e4 => simp; omega
            intro v' w1 hown' hgrow _
            have HBw : Below w.heap.size w w1 := (hnx.alloc (by omega) _).grown hgrow (by simp; omega) (fun g hg => (h8.lt g hg).1)
            have H9 := (h9.alloc _).kept hgrow (owns_apart h9 h8 (by decide))
            have H8 : w1.ownsRow w.heap.size 5 1 v' (Pk.buf ss pb cp k ++ Pk.hdr S (x.size - S)).length (byc (Pk.buf ss pb cp k ++ Pk.hdr S (x.size - S))) := by
              rw [HH.out, byc_snoc _ _ (by omega)]
              have e : ((S * 16 + (x.size - S) : Nat) : Int) = (S : Int) * 16 + ((x.size : Int) - (S : Int)) := by omega
              rw [e]; simpa using hown'
            clear hown' hgrow h8 h9 hnx
            go_wp2
            go_meet
            exact ⟨H8, H9, HBw⟩
          · have hd : smallB S (x.size - S) = false := decide_eq_false hsm
            rw [hd]
            have HH : Hid (Pk.buf ss pb cp k ++ Pk.hdr S (x.size - S) = Pk.buf ss pb cp k ++ [UInt8.ofNat 240] ++ Pk.uv 3 S ++ Pk.uv 3 (x.size - S)) := by
              show Pk.buf ss pb cp k ++ Pk.hdr S (x.size - S) = _
              unfold Pk.hdr; rw [if_neg hsm]; simp
            clear hsm
            go_wp2_with (at_builtin; refine wpList_append_own _ rfl _ _ 36 rfl w.heap.size 5 i0 (.int .u8 0) 1 1 Try.underlying36 hi hz0 hz1 hz2 rfl (by decide) _ _ _ rfl (h8.alloc _) ⟨wc.heap.size, 0, none⟩ 1 1 [.int .u8 240] rfl rfl (cell_one_new _ _ _) ?f1 ?f2 ?f3 ?f4 ?_)
            case f1 => intro u hu; simp at hu; subst hu; rfl
            case f2 => unfold maxLen; omega
            case f3 => omega
            case f4 => simp; omega
            intro v' w1 hown' hgrow _
            have HBw : Below w.heap.size w w1 := (hnx.alloc (by omega) _).grown hgrow (by simp; omega) (fun g hg => (h8.lt g hg).1)
            have H9 := (h9.alloc _).kept hgrow (owns_apart h9 h8 (by decide))
            have H8 : w1.ownsRow w.heap.size 5 1 v' (Pk.buf ss pb cp k ++ [UInt8.ofNat 240]).length (byc (Pk.buf ss pb cp k ++ [UInt8.ofNat 240])) := by
              rw [byc_snoc _ _ (by omega)]; simpa using hown'
            have hsz1 := HBw.size
            have hl1 : (Pk.buf ss pb cp k ++ [UInt8.ofNat 240]).length + 3 ≤ 2097152 := by simp; omega
            have hl2 : (Pk.buf ss pb cp k ++ [UInt8.ofNat 240] ++ Pk.uv 3 S).length + 3 ≤ 2097152 := by have := Pk.uv_len 3 S; simp; omega
            clear hown' hgrow h8 h9 hnx
            have HC1 := uv22_int w.heap.size v' (Pk.buf ss pb cp k ++ [UInt8.ofNat 240]) S (S : Int) w1 _ _ _ rfl H9 H8 (by omega) (by omega) hl1
            clear H9 H8
            go_upto_region 20 with (go_at_call 22; refine HC1.mono ?_; rintro e w2 ⟨v2, rfl, H82, H92, HB2⟩)
            have HBw2 : Below w.heap.size w w2 := HBw.trans HB2
            have hsz2 := HBw2.size
            have HC2 := uv22_int w.heap.size v2 (Pk.buf ss pb cp k ++ [UInt8.ofNat 240] ++ Pk.uv 3 S) (x.size - S) ((x.size : Int) - (S : Int)) w2 _ _ _ (by omega) H92 H82 (by omega) (by omega) hl2
            clear HC1 H92 H82 HB2 HBw
            go_wp2_with (go_at_call 22; refine HC2.mono ?_; rintro e w3 ⟨v3, rfl, H83, H93, HB3⟩)
            go_meet
            exact ⟨by rw [HH.out]; exact H83, H93, HBw2.trans HB3⟩
        case rest =>
          obtain ⟨h8, h9, hnx⟩ := hcut
          have hsz := hnx.size
          have hhl := Pk.hdr_len S (x.size - S)
          have hLb : (Pk.buf ss pb cp k ++ Pk.hdr S (x.size - S)).length ≤ 1048576 + 9 := by simp; omega
          clear hhl
          go_wp2_with (at_builtin; refine Go.Lib.wpList_append_own_string _ rfl _ _ 36 9 rfl w.heap.size 5 i0 Try.underlying36 Try.underlying9 hi hz0 hz1 hz2 _ _ _ rfl h8 (x.extract S x.size) rfl ?g1 ?g2 ?g3 ?_)
          case g1 => unfold maxLen; simp only [ByteArray.size_extract]; omega
          case g2 => simp only [ByteArray.size_extract]; omega
          case g3 => omega
          intro v' w1 hown' hgrow _
          have HBw : Below w.heap.size w w1 := hnx.grown hgrow (by omega) (fun g hg => (h8.lt g hg).1)
          have H9 := h9.kept hgrow (owns_apart h9 h8 (by decide))
          have H8 : w1.ownsRow w.heap.size 5 1 v' (Pk.buf ss pb cp (k + 1)).length (byc (Pk.buf ss pb cp (k + 1))) := by
            rw [hE.out]
            have e0 : (x.extract S x.size).data.toList.length = x.size - S := by
              rw [Array.length_toList]; show (x.extract S x.size).size = _
              rw [ByteArray.size_extract]; omega
            have e1 : (Pk.buf ss pb cp k ++ Pk.hdr S (x.size - S) ++ (x.extract S x.size).data.toList).length = (Pk.buf ss pb cp k).length + (Pk.hdr S (x.size - S)).length + (x.size - S) := by
              rw [List.length_append, List.length_append, e0]
            have e2 : byc (Pk.buf ss pb cp k ++ Pk.hdr S (x.size - S) ++ (x.extract S x.size).data.toList) = byc (Pk.buf ss pb cp k ++ Pk.hdr S (x.size - S)) ++ Go.Lib.strCells (x.extract S x.size) := by
              simp only [byc, List.map_append]; rfl
            rw [e1, e2]; exact hown'
          clear hown' hgrow h8 h9 hnx
          go_wp2
          go_roundw
          case rel => first | exact ⟨k + 1, by omega, by go_num, H8, H9, HBw⟩ | ((repeat apply Exists.intro); exact ⟨⟨k + 1, by omega, by go_num, H8, H9, HBw⟩, rfl⟩)
          case measure => simp [intOf]; omega
    · have hke : k = ss.length := by omega
      subst hke
      have hcv := convert_owned h8
      clear hc
      go_wp2
      go_ret2
      exact ⟨_, rfl, h9, hnx⟩

end Go.Proofs.Qxb6600267a
