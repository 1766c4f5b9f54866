/-
  THE WALKS OF (*packedStrings).at AND ZZPackedAt.
-/
import Derived.Test.Qxb6600267aEntry
namespace Go.Proofs.Qxb6600267a
open Go.RowKit

/-- The packed strings as they lie in memory: P the struct's block, g the block starts' row. -/
structure Laid (w : World) (P g n pb cap : Nat) (ss : List ByteArray) (cp : Int) : Prop where
  text : w.cell? ⟨P, 0, none⟩ = some (.string ⟨(Pk.buf ss pb cp ss.length).toArray⟩)
  blocks : w.cell? ⟨P, 1, none⟩ = some (.slice (some ⟨g, 0, none⟩) (Pk.blk ss pb cp ss.length).length cap)
  count : w.cell? ⟨P, 2, none⟩ = some (.int .i64 (n : Nat))
  per : w.cell? ⟨P, 3, none⟩ = some (.int .i64 (pb : Nat))
  start : ∀ j, j < (Pk.blk ss pb cp ss.length).length → w.cell? ⟨g, j, none⟩ = some (.int .u32 ((Pk.blk ss pb cp ss.length).getD j 0 : Nat))

theorem st_le (ss : List ByteArray) (m : Nat) (hm : m < ss.length) : (Pk.st ss m).length ≤ Pk.tot ss ss.length := by
  have h2 : Pk.tot ss (m + 1) ≤ Pk.tot ss ss.length := Pk.tot_mono ss (m + 1) ss.length (by omega)
  have h3 : Pk.tot ss (m + 1) = Pk.tot ss m + (Pk.st ss m).length := rfl
  omega

theorem entry_pk (P : Nat) (ss : List ByteArray) (pb : Nat) (cp : Int) (m : Nat) (w : World) (hn : 16 * ss.length + Pk.tot ss ss.length ≤ 1048576) (hm : m < ss.length) (h0 : w.cell? ⟨P, 0, none⟩ = some (.string ⟨(Pk.buf ss pb cp ss.length).toArray⟩)) (A B : Int)
    (hA : A = (Pk.pos ss pb cp m : Nat)) (hB : B = (Pk.pos ss pb cp (m + 1) : Nat)) :
    Calls Try.prog 26 #[.pointer (some ⟨P, 0, none⟩), .int .i64 A] w fun e w' => e = .returned (.tuple #[.int .i64 (Pk.sh ss pb cp m : Nat), .string ⟨((Pk.st ss m).drop (Pk.sh ss pb cp m)).toArray⟩, .int .i64 B]) ∧ ∃ n, w' = w.drewN n := by
  obtain ⟨tail, ht⟩ := Pk.buf_drop ss pb cp ss.length m hm
  have hs := Pk.sh_le ss pb cp m
  have hl := st_le ss m hm
  have hp := Pk.pos_le ss pb cp ss.length
  have hr : ((Pk.st ss m).drop (Pk.sh ss pb cp m)).length = (Pk.st ss m).length - Pk.sh ss pb cp m := by simp
  refine entry26_any P ⟨(Pk.buf ss pb cp ss.length).toArray⟩ (Pk.pos ss pb cp m) (Pk.sh ss pb cp m) ((Pk.st ss m).drop (Pk.sh ss pb cp m)) tail w h0 ?_ ?_ (by omega) (by omega) A B hA ?_
  · show (Pk.buf ss pb cp ss.length).length ≤ _
    have : (Pk.buf ss pb cp ss.length).length = Pk.pos ss pb cp ss.length := rfl
    omega
  · rw [hr]
    show (Pk.buf ss pb cp ss.length).drop _ = _
    rw [ht]; unfold Pk.ent; rw [List.append_assoc]
  · rw [hB, Pk.pos_succ, hr]
    unfold Pk.ent
    rw [List.length_append, hr]
    simp only [Nat.add_assoc]

/-! ### A slice of bytes that began in an array of its own ('var room [128]byte; built := append(room[:0], s...)') -/
/-- The 128 zeros of the array. -/
def zero128 : Array Value := Array.replicate 128 (Value.int .u8 0)
theorem zero49 (w : World) : (zeroValue 49).run Try.prog w = .ok (.agg zero128) w := by kernel_rfl

/-- v leads to a row of the call's own (of bytes, or the array itself) whose first cells are the bytes l. -/
def Bld (w : World) (base : Nat) (v : Value) (l : List UInt8) : Prop :=
  ∃ g cap tag, v = .slice (some ⟨g, 0, none⟩) l.length cap ∧ w.ownsRow base tag 1 (.slice (some ⟨g, 0, none⟩) l.length cap) l.length (byc l)

theorem room_tag (w : World) (ty : TypeId) (i : TypeInfo) (hi : Try.prog.info? 5 = some i) (hs1 : i.size = 1) (g sLen sCap : Nat) (cur : Array Value) (tag : TypeId) (hg : w.heap[g]? = some (.cells cur tag (0, 0))) (s : ByteArray)
    (hroom : sLen + s.size ≤ sCap) (hfit : sLen + s.size ≤ cur.size) :
    (Builtin.append_ #[36, 9] ty #[.slice (some ⟨g, 0, none⟩) sLen sCap, .string s]).run Try.prog w =
      .ok (.slice (some ⟨g, 0, none⟩) (sLen + s.size) sCap) (w.setRow g (cur.toList.take sLen ++ Lib.strCells s ++ cur.toList.drop (sLen + s.size)).toArray) := by
  have hf := Lib.run_firstCells_string (P := Try.prog) w 1 s
  have hst := run_storeCells_at Try.prog g sLen tag (Lib.strCells s) 0 cur w hg (by simpa [Lib.strCells_length] using hfit) (Lib.strCells_oneCell s)
  simp only [Nat.add_zero, Lib.strCells_length] at hst
  simp [Builtin.append_, run_underlying Try.underlying36, run_underlying Try.underlying9, sizeOf, typeInfo, hi, hs1, Builtin.lenOf, hroom, hf, Addr.add_lit, hst]

theorem byc_append (a b : List UInt8) : byc (a ++ b) = byc a ++ byc b := by simp [byc]
theorem byc_length (a : List UInt8) : (byc a).length = a.length := by simp [byc]
theorem byc_str (s : ByteArray) : Lib.strCells s = byc s.data.toList := rfl
theorem str_len (s : ByteArray) : s.data.toList.length = s.size := by rw [Array.length_toList]; rfl

theorem run_append_bld (w : World) (base : Nat) (ty : TypeId) (v : Value) (l : List UInt8) (h : Bld w base v l) (s : ByteArray) (hb : base ≤ w.heap.size) (hl : l.length + s.size ≤ 4194304) :
    ∃ v' w', (Builtin.append_ #[36, 9] ty #[v, .string s]).run Try.prog w = .ok v' w' ∧ Bld w' base v' (l ++ s.data.toList) ∧ w.grownBy w' v.ownBlock := by
  obtain ⟨i0, hi, hz0, hz1, hz2⟩ := info_parts Try.info5
  obtain ⟨g, cap, tag, rfl, hown⟩ := h
  have hlen : (l ++ s.data.toList).length = l.length + s.size := by rw [List.length_append, str_len]
  rcases hown.2 with ⟨h0, _⟩ | ⟨g', cap', cur, hv, hbg, hg, hnc, hcm, hcs, htake⟩
  · cases h0
  simp only [Value.slice.injEq, Option.some.injEq, Addr.mk.injEq, and_true, true_and] at hv
  obtain ⟨rfl, rfl⟩ := hv
  by_cases hroom : l.length + s.size ≤ cap
  · have hr := room_tag w ty i0 hi hz1 g l.length cap cur tag hg s hroom (by omega)
    refine ⟨_, _, hr, ⟨g, cap, tag, by rw [hlen], ?_⟩, ⟨rfl, rfl, rfl, by simp, fun k _ hk => setRow_other w g k _ (fun e => hk (by simp [Value.ownBlock, e]))⟩⟩
    rw [hlen]
    refine ⟨by rw [byc_length, hlen, Nat.mul_one], .inr ⟨g, cap, _, rfl, hbg, setRow_heap w g cur _ tag _ hg, hroom, hcm, ?_, ?_⟩⟩
    · simp only [List.size_toArray, List.length_append, List.length_take, List.length_drop, Array.length_toList, Lib.strCells_length]
      omega
    · have ht' : cur.toList.take l.length = byc l := by simpa using htake
      rw [ht', byc_append, byc_str]
      have hk : (l.length + s.size) * 1 = (byc l ++ byc s.data.toList).length := by simp [byc]
      rw [hk]
      exact List.take_left
  · have holds : ∀ j u, (byc l)[j]? = some u → w.cell? ((⟨g, 0, none⟩ : Addr).add j) = some u := hown.cells (g := g) rfl
    have hr := Lib.run_append_grow_string (P := Try.prog) w 36 9 ty 5 i0 (.int .u8 0) Try.underlying36 Try.underlying9 hi hz0 ⟨g, 0, none⟩ l.length cap (byc l) (by rw [hz1, byc_length]; omega) holds s (by omega) (by omega) (by rw [hz2]; exact growslice_fits (by omega) (by omega))
    have hge := grownCap_ge w (l.length + s.size) cap 5
    have hcm2 : grownCap w (l.length + s.size) cap 5 ≤ maxLen := grownCap_le_maxLen w (l.length + s.size) cap 5 (by unfold maxLen; omega)
    refine ⟨_, _, hr, ⟨w.heap.size, grownCap w (l.length + s.size) cap 5, 5, by rw [hlen], ?_⟩, ⟨rfl, rfl, rfl, by simp, fun k hk _ => Below.heap_alloc w.drew _ k hk⟩⟩
    rw [hlen]
    refine ⟨by rw [byc_length, hlen, Nat.mul_one], .inr ⟨w.heap.size, _, _, rfl, hb, heap_alloc_new w.drew _, hge, hcm2, ?_, ?_⟩⟩
    · have hzz : (Value.int IntKind.u8 0).cells.size = 1 := rfl
      simp only [Array.size_append, List.size_toArray, size_zeroCells, hzz, byc_length, Lib.strCells_length]
      omega
    · simp only [Array.toList_append, List.append_assoc]
      rw [← List.append_assoc, byc_str, ← byc_append]
      have hk : (l.length + s.size) * 1 = (byc (l ++ s.data.toList)).length := by rw [byc_length, hlen, Nat.mul_one]
      rw [hk]
      exact List.take_left

theorem wpList_append_bld (w : World) {ops : Array Oper} {rest : List Oper} {o : Oper} {a : Act} {Q : Exit → Act → World → Prop} (hgd : o.guard = none) (sl x : Operand)
    (ho : o.op = .call { callee := .builtin .append, args := #[sl, x], argTypes := #[36, 9] }) (base : Nat) (v : Value) (l : List UInt8) (hs : a.eval sl = v) (h : Bld w base v l) (s : ByteArray) (hx : a.eval x = .string s)
    (hb : base ≤ w.heap.size) (hl : l.length + s.size ≤ 4194304)
    (hk : ∀ v' w', Bld w' base v' (l ++ s.data.toList) → w.grownBy w' v.ownBlock → wpList Try.prog ops Q rest (a.put o.dst v') w') : wpList Try.prog ops Q (o :: rest) a w := by
  refine wpList_plain hgd fun K hK => ?_
  obtain ⟨v', w', hr, h2, h3⟩ := run_append_bld w base o.type v l h s hb hl
  unfold Oper.wp execOp
  simp only [ho, resolve, invoke, builtin, Sem.run_bind, Sem.run_pure, Result.andThen_ok, List.map_toArray, List.map_cons, List.map_nil, hs, hx, hr]
  exact hK _ _ (hk v' w' h2 h3)

/-- 'built[:k]' -/
theorem Bld.cut {w : World} {base : Nat} {g cap : Nat} {l : List UInt8} {tag : TypeId} (h : w.ownsRow base tag 1 (.slice (some ⟨g, 0, none⟩) l.length cap) l.length (byc l)) (k : Nat) (hk : k ≤ l.length) :
    Bld w base (.slice (some ⟨g, 0, none⟩) k cap) (l.take k) := by
  have e : (l.take k).length = k := by simp; omega
  refine ⟨g, cap, tag, by rw [e], ?_⟩
  rw [e]
  rcases h.2 with ⟨h0, _⟩ | ⟨g', cap', cur, hv, hbg, hg, hnc, hcm, hcs, htake⟩
  · cases h0
  simp only [Value.slice.injEq, Option.some.injEq, Addr.mk.injEq, and_true, true_and] at hv
  obtain ⟨rfl, rfl⟩ := hv
  refine ⟨by rw [byc_length, e, Nat.mul_one], .inr ⟨g, cap, cur, rfl, hbg, hg, by omega, hcm, hcs, ?_⟩⟩
  have h3 : (cur.toList.take (l.length * 1)).take k = (byc l).take k := by rw [htake]
  rw [List.take_take, Nat.min_eq_left (by omega)] at h3
  rw [Nat.mul_one, h3]
  simp [byc]

/-- 'string(built)' -/
theorem Bld.convert {w : World} {base : Nat} {v : Value} {l : List UInt8} (h : Bld w base v l) : (convert 36 9 v).run Try.prog w = .ok (.string ⟨l.toArray⟩) w := by
  obtain ⟨g, cap, tag, rfl, h⟩ := h
  refine run_convert_bytes_back w 36 9 5 ⟨g, 0, none⟩ cap l Try.underlying36 Try.underlying5 Try.underlying9 fun j hj => ?_
  have hc := h.cellAt j (by simpa using hj)
  rw [Addr.add_lit, Nat.zero_add, hc, byc, List.getElem?_map, List.getElem?_eq_getElem hj]
  rfl

/-- The array, cut to nothing. -/
theorem Bld.room (w : World) : Bld (w.alloc (.cells zero128 49)) w.heap.size (.slice (some ⟨w.heap.size, 0, none⟩) 0 128) [] :=
  ⟨w.heap.size, 128, 49, rfl, World.ownsRow_made w zero128 128 (Nat.le_refl _) (by decide) (by simp [zero128])⟩

theorem Bld.lt {w : World} {base : Nat} {v : Value} {l : List UInt8} (h : Bld w base v l) : ∀ k, v.ownBlock = some k → base ≤ k := by
  obtain ⟨g, cap, tag, rfl, h⟩ := h
  exact fun k hk => (h.lt k hk).1

/-- The bytes of a string that is whole. -/
theorem st_whole (ss : List ByteArray) (m : Nat) : (⟨(Pk.st ss m).toArray⟩ : ByteArray) = ss.getD m ByteArray.empty := (ba_eq rfl).symm

set_option maxHeartbeats 1600000 in
set_option maxRecDepth 100000 in
theorem at23_any (P g n pb cap : Nat) (ss : List ByteArray) (cp : Int) (i : Nat) (w : World) (hL : Laid w P g n pb cap ss cp) (hpb : 1 ≤ pb) (hpb' : pb ≤ 9223372036854775807)
    (hn : 16 * ss.length + Pk.tot ss ss.length ≤ 1048576) (hi : i < ss.length) (hP : P < w.heap.size) :
    Calls Try.prog 23 #[.pointer (some ⟨P, 0, none⟩), .int .i64 i] w fun e w' => e = .returned (.string (ss.getD i ByteArray.empty)) ∧ Below w.heap.size w w' := by
  have hq : i / pb * pb ≤ i := Nat.div_mul_le_self i pb
  have hq2 : i / pb * pb + i % pb = i := by have := Nat.div_add_mod i pb; rw [Nat.mul_comm] at this; exact this
  obtain ⟨hb1, hb2⟩ := Pk.blk_get ss pb cp hpb ss.length i hi
  have hc1 := hL.text
  have hc2 := hL.blocks
  have hc4 := hL.per
  have hc5 := hL.start (i / pb) hb1
  have hgd : (Pk.blk ss pb cp ss.length).getD (i / pb) 0 = Pk.pos ss pb cp (i / pb * pb) := by simp [List.getD, hb2]
  rw [hgd] at hc5
  obtain ⟨p0, hp0⟩ : ∃ p0, p0 = Pk.pos ss pb cp (i / pb * pb) := ⟨_, rfl⟩
  obtain ⟨p1, hp1⟩ : ∃ p1, p1 = Pk.pos ss pb cp (i / pb * pb + 1) := ⟨_, rfl⟩
  rw [← hp0] at hc5
  obtain ⟨m0, hm0⟩ : ∃ m0, m0 = i / pb * pb := ⟨_, rfl⟩
  obtain ⟨s0, hs0⟩ : ∃ s0, s0 = ss.getD m0 ByteArray.empty := ⟨_, rfl⟩
  obtain ⟨T, hT⟩ : ∃ T : ByteArray, T = ⟨(Pk.buf ss pb cp ss.length).toArray⟩ := ⟨_, rfl⟩
  rw [← hT] at hc1
  obtain ⟨L, hLn⟩ : ∃ L, L = (Pk.blk ss pb cp ss.length).length := ⟨_, rfl⟩
  rw [← hLn] at hc2 hb1
  have hLb : L ≤ 65536 := by have := Pk.blk_len ss pb cp ss.length; omega
  have hsh : Pk.sh ss pb cp m0 = 0 := Pk.sh_zero _ _ _ _ (by rw [hm0]; exact Nat.mul_mod_left _ _)
  have HE0 : ∀ wx : World, wx.cell? ⟨P, 0, none⟩ = some (.string T) → Calls Try.prog 26 #[.pointer (some ⟨P, 0, none⟩), .int .i64 (p0 : Nat)] wx fun e w' => e = .returned (.tuple #[.int .i64 0, .string s0, .int .i64 (p1 : Nat)]) ∧ ∃ n, w' = wx.drewN n := by
    intro wx h0
    rw [hT] at h0
    refine (entry_pk P ss pb cp m0 wx hn (by omega) h0 (p0 : Nat) (p1 : Nat) (by rw [hp0, hm0]) (by rw [hp1, hm0])).mono fun e w' h => ⟨?_, h.2⟩
    rw [h.1, hsh, List.drop_zero, st_whole, ← hs0]; rfl
  have hpp0 : p0 ≤ 1048576 := by
    have := Pk.pos_le ss pb cp (i / pb * pb)
    have := Pk.tot_mono ss (i / pb * pb) ss.length (by omega)
    omega
  have hib : (i : Int) / (pb : Int) < (L : Int) := by exact_mod_cast hb1
  have hib0 : (0 : Int) ≤ (i : Int) / (pb : Int) := Int.ediv_nonneg (by omega) (by omega)
  have HQ : Hid (m0 + i % pb = i) := by rw [hm0]; exact hq2
  have HS0 : Hid (s0 = ss.getD m0 ByteArray.empty) := hs0
  have HP1 : Hid (p1 = Pk.pos ss pb cp (m0 + 1)) := by rw [hm0]; exact hp1
  have HT : Hid (T = ⟨(Pk.buf ss pb cp ss.length).toArray⟩) := hT
  have HSH : Hid (Pk.sh ss pb cp m0 = 0) := hsh
  clear hgd hb2 hp0 hp1 hT hLn hsh hq hm0 hq2 hs0
  go_enter Try.func23, Try.ntmps23
  go_wp2
  go_quiet ((go_at_call 26; exact Calls.quiet_of (HE0 _ (by simpa using hc1))))
  by_cases hm : i % pb = 0
  · have hmb : ((i : Int) % (pb : Int) == 0) = true := by
      have : (i : Int) % (pb : Int) = 0 := by exact_mod_cast congrArg (Nat.cast : Nat → Int) hm
      simp [this]
    have HM : Hid (s0 = ss.getD i ByteArray.empty) := by
      show s0 = _
      rw [HS0.out]; congr 1; have := HQ.out; omega
    clear hm
    go_wp2
    go_ret
    exact ⟨by rw [← HM.out]; rfl, below_drewN (Below.refl _ _) _⟩
  · have hmb : ((i : Int) % (pb : Int) == 0) = false := by
      have : ¬ (i : Int) % (pb : Int) = 0 := by intro e; exact hm (by exact_mod_cast e)
      simpa using this
    have hz := zero49
    have hb0 := Bld.room (w.drewN nq)
    have hsl0 : s0.size ≤ 1048576 := by rw [HS0.out, st_size]; have := st_le ss m0 (by have := HQ.out; omega); omega
    obtain ⟨steps, hst⟩ : ∃ steps, steps = i % pb := ⟨_, rfl⟩
    have hsI : (i : Int) % (pb : Int) = (steps : Nat) := by rw [hst]; simp
    have HQ' : Hid (m0 + steps = i) := by rw [hst]; exact HQ.out
    have hsb : steps < 65536 := by have := HQ'.out; omega
    have hspos : 0 < steps := by omega
    have hmb2 : ((steps : Int) == 0) = false := by simp; omega
    clear HQ hm hst hib hib0 hb1 hc5 HE0 hpp0 hmb hc2
    go_wp2_with (at_builtin; refine wpList_append_bld _ rfl _ _ rfl w.heap.size _ [] rfl hb0 s0 rfl ?c1 ?c2 ?_)
    case c1 => simp
    case c2 => simp; omega
    intro v' w1 hbd hgrow
    have HB1 : Below w.heap.size w w1 := ((below_drewN (Below.refl _ _) nq).alloc (Nat.le_refl _) _).grown hgrow (by simp) (fun k hk => hb0.lt k hk)
    clear hgrow hb0 hz
    go_wp2
    go_loopw [6, 7, 10, 11, 44] (fun v6 v7 v10 v11 v44 wr => ∃ (k S q : Nat) (x : ByteArray), k ≤ steps ∧ v44 = .int .i64 k ∧ v6 = .string x ∧ Hid (x = ⟨((Pk.st ss (m0 + k)).drop (Pk.sh ss pb cp (m0 + k))).toArray⟩) ∧ v7 = .int .i64 (q : Nat) ∧ Hid (q = Pk.pos ss pb cp (m0 + k + 1)) ∧
        Bld wr w.heap.size v10 (Pk.st ss (m0 + k)) ∧ v11 = .int .i64 (S : Nat) ∧ Hid (S = Pk.sh ss pb cp (m0 + k)) ∧ Below w.heap.size w wr)
      (fun _ _ _ _ i _ => steps - (intOf i).toNat)
    case atStart =>
      have hsh : Pk.sh ss pb cp m0 = 0 := HSH.out
      refine ⟨0, 0, p1, s0, Nat.zero_le _, rfl, rfl, ?_, rfl, HP1.out, ?_, rfl, hsh.symm, HB1⟩
      · show s0 = _
        rw [Nat.add_zero, hsh, List.drop_zero, st_whole]; exact HS0.out
      · have e : s0.data.toList = Pk.st ss m0 := by rw [HS0.out]; rfl
        rw [Nat.add_zero, ← e]; exact hbd
    case round =>
      obtain ⟨k, S, q, x, hk, rfl, rfl, HX, rfl, HP, hbd, rfl, HS, hnx⟩ := hrel
      have hsz := hnx.size
      by_cases hlt : k < steps
      · have hm1 : m0 + k + 1 < ss.length := by have := HQ'.out; omega
        have hcr : wr.cell? ⟨P, 0, none⟩ = some (.string T) := (hnx.cell (by exact hP)).trans hc1
        obtain ⟨g', cap', tag, rfl, hrow⟩ := hbd
        obtain ⟨S', hS'⟩ : ∃ S', S' = Pk.sh ss pb cp (m0 + k + 1) := ⟨_, rfl⟩
        obtain ⟨q', hq'⟩ : ∃ q', q' = Pk.pos ss pb cp (m0 + k + 1 + 1) := ⟨_, rfl⟩
        obtain ⟨x', hx'⟩ : ∃ x' : ByteArray, x' = ⟨((Pk.st ss (m0 + k + 1)).drop (Pk.sh ss pb cp (m0 + k + 1))).toArray⟩ := ⟨_, rfl⟩
        have HC := entry_pk P ss pb cp (m0 + k + 1) wr hn hm1 (by rw [← HT.out]; exact hcr) (q : Nat) (q' : Nat) (by rw [HP.out]) (by rw [hq'])
        rw [← hx', ← hS'] at HC
        have hSl : S' ≤ (Pk.st ss (m0 + k)).length := by rw [hS']; exact Pk.sh_le' ss pb cp (m0 + k + 1)
        have hSI : (S' : Int) ≤ (cap' : Int) := by
          rcases hrow.2 with ⟨h0, _⟩ | ⟨_, _, _, hv, _, _, hnc, _⟩
          · cases h0
          · simp only [Value.slice.injEq, Option.some.injEq, Addr.mk.injEq, and_true, true_and] at hv
            omega
        have hcut := Bld.cut hrow S' hSl
        have HE : Hid ((Pk.st ss (m0 + k)).take S' ++ x'.data.toList = Pk.st ss (m0 + k + 1)) := by
          show _ = _
          have e1 : x'.data.toList = (Pk.st ss (m0 + k + 1)).drop S' := by rw [hx', hS']
          have e2 := Pk.sh_take ss pb cp (m0 + k + 1)
          rw [← hS', Nat.add_sub_cancel] at e2
          rw [e1, e2]; exact List.take_append_drop _ _
        have hl1 := st_le ss (m0 + k + 1) hm1
        have hEl := congrArg List.length HE.out
        rw [List.length_append, str_len] at hEl
        have hlb : ((Pk.st ss (m0 + k)).take S').length + x'.size ≤ 4194304 := by omega
        have HS' : Hid (S' = Pk.sh ss pb cp (m0 + k + 1)) := hS'
        have HP' : Hid (q' = Pk.pos ss pb cp (m0 + k + 1 + 1)) := hq'
        have HX' : Hid (x' = ⟨((Pk.st ss (m0 + k + 1)).drop (Pk.sh ss pb cp (m0 + k + 1))).toArray⟩) := hx'
        have hSb : S' ≤ 1048576 := by have := st_le ss (m0 + k) (by omega); omega
        have hlen0 := hrow.1
        clear hS' hq' hx' hl1 hEl HX HS hcr hlen0 hrow
        go_wp2_with (first | (go_at_call 26; refine HC.mono ?_; rintro e w2 ⟨rfl, nd, rfl⟩) | (at_builtin; refine wpList_append_bld _ rfl _ _ rfl w.heap.size _ ((Pk.st ss (m0 + k)).take S') rfl hcut x' rfl ?d1 ?d2 ?_))
        case d1 => exact hsz
        case d2 => exact hlb
        intro v3 w3 hbd3 hgrow3
        have HB3 : Below w.heap.size w w3 := (below_drewN hnx nd).grown hgrow3 hsz (fun k hk => hcut.lt k hk)
        rw [HE.out] at hbd3
        clear hgrow3 hcut HC hnx HB1 hbd
        go_wp2
        go_roundw
        case rel => first | exact ⟨k + 1, S', q', x', by omega, by go_num, rfl, HX', rfl, HP', hbd3, rfl, HS', HB3⟩ | ((repeat apply Exists.intro); exact ⟨⟨k + 1, S', q', x', by omega, by go_num, rfl, HX', rfl, HP', hbd3, rfl, HS', HB3⟩, rfl⟩)
        case measure => simp [intOf]; omega
      · have hke : k = steps := by omega
        have HI : Hid (m0 + k = i) := by rw [hke]; exact HQ'.out
        by_cases hS0 : S = 0
        · have hSb : ((S : Int) == 0) = true := by simp [hS0]
          have HR : Hid (x = ss.getD i ByteArray.empty) := by
            show x = _
            rw [HX.out, ← HS.out, hS0, List.drop_zero, st_whole, HI.out]
          clear hS0 hke
          go_wp2
          go_ret
          exact ⟨by rw [← HR.out]; rfl, hnx⟩
        · have hSb : ((S : Int) == 0) = false := by simpa using hS0
          have hcv := hbd.convert
          have e : (⟨(Pk.st ss (m0 + k)).toArray⟩ : ByteArray) = ss.getD i ByteArray.empty := by rw [st_whole, HI.out]
          obtain ⟨R, hR⟩ : ∃ R, R = ss.getD i ByteArray.empty := ⟨_, rfl⟩
          have HR : Hid (R = ss.getD i ByteArray.empty) := hR
          rw [e, ← hR] at hcv
          clear hS0 hke e hR
          go_wp2
          go_ret
          exact ⟨by rw [← HR.out]; rfl, hnx⟩

set_option maxHeartbeats 800000 in
set_option maxRecDepth 100000 in
theorem zzat13_any (g pb cap n : Nat) (ss : List ByteArray) (cp : Int) (i : Nat) (w : World) (hpb : 1 ≤ pb) (hpb' : pb ≤ 9223372036854775807)
    (hn : 16 * ss.length + Pk.tot ss ss.length ≤ 1048576) (hi : i < ss.length) (R : ByteArray) (HR : Hid (R = ss.getD i ByteArray.empty)) (hg : g < w.heap.size)
    (hst : ∀ j, j < (Pk.blk ss pb cp ss.length).length → w.cell? ⟨g, j, none⟩ = some (.int .u32 ((Pk.blk ss pb cp ss.length).getD j 0 : Nat))) :
    Calls Try.prog 13 #[.string ⟨(Pk.buf ss pb cp ss.length).toArray⟩, .slice (some ⟨g, 0, none⟩) (Pk.blk ss pb cp ss.length).length cap, .int .i64 n, .int .i64 pb, .int .i64 i] w fun e w' => e = .returned (.string R) ∧ Below w.heap.size w w' := by
  obtain ⟨T, hT⟩ : ∃ T : ByteArray, T = ⟨(Pk.buf ss pb cp ss.length).toArray⟩ := ⟨_, rfl⟩
  obtain ⟨L, hLn⟩ : ∃ L, L = (Pk.blk ss pb cp ss.length).length := ⟨_, rfl⟩
  have hL : Laid (w.alloc (.cells #[.string T, .slice (some ⟨g, 0, none⟩) L cap, .int .i64 n, .int .i64 pb] 44)) w.heap.size g n pb cap ss cp := by
    rw [hT, hLn]
    refine ⟨?_, ?_, ?_, ?_, fun j hj => ?_⟩
    · simp
    · simp
    · simp
    · simp
    · rw [Below.cell ((Below.refl w.heap.size w).alloc (Nat.le_refl _) _) (by exact hg)]; exact hst j hj
  have HC := at23_any w.heap.size g n pb cap ss cp i _ hL hpb hpb' hn hi (by simp)
  rw [← HR.out] at HC
  rw [← hT, ← hLn]
  clear hst hL hT hLn
  go_enter Try.func13, Try.ntmps13
  go_wp2_with (go_at_call 23; refine HC.mono ?_; rintro e w2 ⟨rfl, hb2⟩)
  go_ret
  exact ⟨rfl, ((Below.refl w.heap.size w).alloc (Nat.le_refl _) _).trans (hb2.mono (by simp))⟩

end Go.Proofs.Qxb6600267a
