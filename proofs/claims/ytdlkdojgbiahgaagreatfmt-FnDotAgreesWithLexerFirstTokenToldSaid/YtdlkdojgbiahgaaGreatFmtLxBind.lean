/-
  The contract of (*file.Error).Bind: it hands back the error that it got; nothing old but that error's block changes. Condition: the text has at most 2^30 bytes.
-/
import Derived.Test.YtdlkdojgbiahgaaGreatFmtLxReplace
import Derived.Test.YtdlkdojgbiahgaaGreatFmtLxBuilder
import Derived.Lib.OthersKept
import Derived.Deep.CutBlock
namespace Go.Proofs.YtdlkdojgbiahgaaGreatFmt.Lx
open Go.RowKit Go.Lib

/-- An error's block. -/
def EB (w : World) (E : Nat) (a b : Int) (msg : ByteArray) (line col : Int) (snip : ByteArray) : Prop :=
  w.heap[E]? = some (.cells #[.int .i64 a, .int .i64 b, .int .i64 line, .int .i64 col, .string msg, .string snip, .nilIface] 75 (0, 0))
section
variable {w w' : World} {E : Nat} {a b : Int} {msg : ByteArray} {line col : Int} {snip : ByteArray}
theorem EB.c0 (h : EB w E a b msg line col snip) : w.cell? ⟨E, 0, none⟩ = some (.int .i64 a) := cell_of h rfl
theorem EB.c2 (h : EB w E a b msg line col snip) : w.cell? ⟨E, 2, none⟩ = some (.int .i64 line) := cell_of h rfl
theorem EB.c3 (h : EB w E a b msg line col snip) : w.cell? ⟨E, 3, none⟩ = some (.int .i64 col) := cell_of h rfl
theorem EB.c5 (h : EB w E a b msg line col snip) : w.cell? ⟨E, 5, none⟩ = some (.string snip) := cell_of h rfl
theorem EB.f (h : EB w E a b msg line col snip) (i : Nat) : w.frozen? ⟨E, i, none⟩ = false := free_of h
theorem EB.lt (h : EB w E a b msg line col snip) : E < w.heap.size := block_lt h
theorem EB.s2 (h : EB w E a b msg line col snip) (v : Int) : EB (w.setCell ⟨E, 2, none⟩ (.int .i64 v)) E a b msg v col snip := set_of h _
theorem EB.s3 (h : EB w E a b msg line col snip) (v : Int) : EB (w.setCell ⟨E, 3, none⟩ (.int .i64 v)) E a b msg line v snip := set_of h _
theorem EB.s5 (h : EB w E a b msg line col snip) (v : ByteArray) : EB (w.setCell ⟨E, 5, none⟩ (.string v)) E a b msg line col v := set_of h _
theorem EB.below (h : EB w E a b msg line col snip) (hb : Below w.heap.size w w') : EB w' E a b msg line col snip := (hb.block _ h.lt).trans h
theorem EB.alloc (h : EB w E a b msg line col snip) (o : Obj) : EB (w.alloc o) E a b msg line col snip := alloc_old o h
theorem EB.iterAt (h : EB w E a b msg line col snip) {k : Nat} (hk : E ≠ k) (s : ByteArray) (p : Nat) : EB (w.iterAt k s p) E a b msg line col snip := (iterAt_other w k E s p hk).trans h
end

theorem index_bounds (l : List UInt8) (c : UInt8) : -1 ≤ Lib.indexByte l c ∧ Lib.indexByte l c < (l.length : Int) := by
  induction l with
  | nil => unfold Lib.indexByte; simp
  | cons d l ih =>
    unfold Lib.indexByte
    split
    · simp only [List.length_cons]; omega
    · split
      · simp only [List.length_cons]; omega
      · rename_i h1 h2
        have : ¬ Lib.indexByte l c = -1 := by simpa using h2
        simp only [List.length_cons]
        omega
/-- A builder, after what has changed nothing old. -/
theorem bld_below {B b : Nat} {p : Value} {bs : List Value} {w w' : World} (h : Lib.BuilderAt 79 5 B b p bs w) (hb : Below w.heap.size w w') : Lib.BuilderAt 79 5 B b p bs w' := by
  obtain ⟨h1, v, h2, h3, h4⟩ := h
  refine ⟨h1, v, (hb.block b (block_lt h2)).trans h2, ?_, h4⟩
  refine ⟨h3.1, ?_⟩
  rcases h3.2 with h5 | ⟨g, cap, cur, hv, a1, a2, a3⟩
  · exact Or.inl h5
  · exact Or.inr ⟨g, cap, cur, hv, a1, (hb.block g (block_lt a2)).trans a2, a3⟩

/-- The error's block, the builder's block K, and nothing old but the error's block has changed. -/
structure BD (w0 : World) (E K : Nat) (a b : Int) (msg : ByteArray) (line col : Int) (bs : List Value) (w : World) : Prop where
  eb : EB w E a b msg line col ⟨#[]⟩
  ch : Ch [E] w0 w
  bd : Lib.BuilderAt 79 5 K K (.pointer (some ⟨K, 0, none⟩)) bs w
  lt : E < K ∧ w0.heap.size ≤ K
theorem BD.lk {w0 w : World} {E K : Nat} {a b : Int} {msg : ByteArray} {line col : Int} {bs : List Value} (h : BD w0 E K a b msg line col bs w) : K < w.heap.size := by
  obtain ⟨_, v, h2, _⟩ := h.bd
  exact block_lt h2
theorem BD.write {w0 w w' : World} {E K : Nat} {a b : Int} {msg : ByteArray} {line col : Int} {bs bs' : List Value} (h : BD w0 E K a b msg line col bs w) (hb : Below K w w') (h2 : Lib.BuilderAt 79 5 K K (.pointer (some ⟨K, 0, none⟩)) bs' w') : BD w0 E K a b msg line col bs' w' :=
  ⟨(hb.block E h.lt.1).trans h.eb, ⟨hb.os.trans h.ch.os, hb.tape.trans h.ch.tape, hb.output.trans h.ch.output, Nat.le_trans h.ch.size hb.size, fun k hk hS => (hb.block k (Nat.lt_of_lt_of_le hk h.lt.2)).trans (h.ch.block k hk hS)⟩, h2, h.lt⟩
theorem BD.keep {w0 w w' : World} {E K : Nat} {a b : Int} {msg : ByteArray} {line col : Int} {bs : List Value} (h : BD w0 E K a b msg line col bs w) (hb : Below w.heap.size w w') : BD w0 E K a b msg line col bs w' :=
  h.write (hb.mono (Nat.le_of_lt h.lk)) (bld_below h.bd hb)
def pfx : ByteArray := ⟨#[10, 32, 124, 32]⟩

set_option maxRecDepth 100000 in
set_option maxHeartbeats 16000000 in
theorem bind_any (s : ByteArray) (E : Nat) (a b : Int) (msg : ByteArray) (w : World) (h : EB w E a b msg 0 0 ⟨#[]⟩) (hs : s.size ≤ 1073741824) :
    Calls Tryz.prog 29 #[.pointer (some ⟨E, 0, none⟩), .agg #[.string s]] w fun e w' => e = .returned (.pointer (some ⟨E, 0, none⟩)) ∧ Ch [E] w w' := by
  have HX := Lib.hid h
  have hlt0 := h.lt
  clear h
  go_enter Tryz.func29, Tryz.ntmps29
  go_wp2_with (fail)
  refine (src_String s _).mono ?_
  rintro e w1 ⟨rfl, hb1⟩
  have hq1 : EB w1 E a b msg 0 0 ⟨#[]⟩ := (HX.out.alloc _).below hb1
  have hc1 : Ch [E] w w1 := ((Ch.refl [E] w).alloc _).trans (Ch.of_below hb1)
  have c2 := hq1.c2; have c3 := hq1.c3
  have f2 := hq1.f 2; have f3 := hq1.f 3
  have hlt := hq1.lt
  have HQ := Lib.hid hq1
  have HC := Lib.hid hc1
  clear hb1 hq1 hc1 HX hlt0
  go_upto_block 0 with (fail)
  obtain ⟨It, hIt⟩ : ∃ It, w1.heap.size = It := ⟨_, rfl⟩
  generalize hX : World.iter _ _ _ = X
  have hqX : EB X E a b msg 1 0 ⟨#[]⟩ := by rw [← hX]; exact ((HQ.out.s2 1).s3 0).alloc _
  have hcX : Ch [E] w X := by
    rw [← hX]
    exact ((HC.out.setCell (p := ⟨E, 2, none⟩) (Or.inl (by simp)) _).setCell (p := ⟨E, 3, none⟩) (Or.inl (by simp)) _).alloc _
  have hitX : X.heap[It]? = some (.stringIter s 0) := by
    rw [← hX, ← hIt]
    have := World.iter_heap ((w1.setCell ⟨E, 2, none⟩ (.int .i64 1)).setCell ⟨E, 3, none⟩ (.int .i64 0)) s 0
    rw [show ((w1.setCell ⟨E, 2, none⟩ (.int .i64 1)).setCell ⟨E, 3, none⟩ (.int .i64 0)).heap.size = w1.heap.size by simp [World.setCell]] at this
    exact this
  have hEI : E ≠ It := by omega
  have hwI : w.heap.size ≤ It := by rw [← hIt]; exact HC.out.size
  rw [hIt]
  clear hX hIt HQ HC c2 c3 f2 f3 hlt
  go_cut [7] (fun v7 wx => ∃ ls : Nat, v7 = .int .i64 (ls : Int) ∧ ls ≤ s.size ∧ ∃ line col : Int, 0 ≤ col ∧ col ≤ 1073741824 ∧ EB wx E a b msg line col ⟨#[]⟩ ∧ Ch [E] w wx)
  case first =>
    go_wp2_with (fail)
    go_loopg [6, 7] s.size (fun k v6 v7 wr => ∃ (pos rc ls : Nat) (line col : Int), v6 = .int .i64 (rc : Int) ∧ v7 = .int .i64 (ls : Int) ∧ k = s.size - pos ∧ pos ≤ s.size ∧ rc ≤ pos ∧ ls ≤ pos ∧ (0 ≤ line ∧ line ≤ (pos : Int) + 1 ∧ 0 ≤ col ∧ col ≤ (pos : Int)) ∧ wr.heap[It]? = some (.stringIter s pos) ∧ EB wr E a b msg line col ⟨#[]⟩ ∧ Ch [E] w wr)
    case atStart => exact ⟨0, 0, 0, 1, 0, rfl, rfl, rfl, Nat.zero_le _, Nat.le_refl _, Nat.le_refl _, ⟨by omega, by omega, by omega, by omega⟩, hitX, hqX, hcX⟩
    case round =>
      clear hitX hqX hcX
      obtain ⟨pos, rc, ls, line, col, rfl, rfl, hk, hp, hrc, hls, hlc, hit, hq, hc⟩ := hrel
      by_cases hlt : pos < s.size
      · have hnx := fun ty => run_next_any_at (P := Tryz.prog) wr It s pos ty hit hlt
        have hD : Utf8.decode s pos = (dr s pos, dw s pos) := rfl
        rw [hD] at hnx
        have hw := dw_bounds s pos hlt
        clear hD
        generalize dr s pos = D at *
        generalize dw s pos = K at *
        obtain ⟨X, hX⟩ : ∃ X, wr.iterAt It s (pos + K) = X := ⟨_, rfl⟩
        have hqX : EB X E a b msg line col ⟨#[]⟩ := by rw [← hX]; exact hq.iterAt hEI s _
        have hcX : Ch [E] w X := by
          rw [← hX]
          exact ⟨hc.os, hc.tape, hc.output, by rw [iterAt_size]; exact hc.size, fun k hk hS => (iterAt_other wr It k s _ (by omega)).trans (hc.block k hk hS)⟩
        have hiX : X.heap[It]? = some (.stringIter s (pos + K)) := by rw [← hX]; exact iterAt_heap wr It s pos _ hit
        simp only [hX] at hnx
        have c0 := hqX.c0; have c2 := hqX.c2; have c3 := hqX.c3
        have f2 := hqX.f 2; have f3 := hqX.f 3
        have HQ := Lib.hid hqX
        have HC := Lib.hid hcX
        have HI := Lib.hid hiX
        have l1 : 0 ≤ line := hlc.1
        have l2 : line ≤ 1073741825 := by omega
        have l3 : 0 ≤ col := hlc.2.2.1
        have l4 : col ≤ 1073741824 := by omega
        have l5 : (rc : Int) ≤ 1073741824 := by omega
        have l6 : (pos : Int) ≤ 1073741824 := by omega
        have HB := Lib.hid (show gk = s.size - pos ∧ pos ≤ s.size ∧ rc ≤ pos ∧ ls ≤ pos ∧ (0 ≤ line ∧ line ≤ (pos : Int) + 1 ∧ 0 ≤ col ∧ col ≤ (pos : Int)) ∧ pos < s.size ∧ 1 ≤ K ∧ pos + K ≤ s.size from ⟨hk, hp, hrc, hls, hlc, hlt, hw.1, hw.2.1⟩)
        clear hX hit hq hc hqX hcX hiX hk hp hrc hls hlc hlt hw
        obtain ⟨bz, hbz⟩ : ∃ bz, ((rc : Int) == a) = bz := ⟨_, rfl⟩
        cases bz with
        | true =>
          go_wp2
          go_meet
          have q := HB.out
          exact ⟨ls, rfl, by omega, line, col, l3, l4, HQ.out, HC.out⟩
        | false =>
          by_cases hD : D = 10
          · have z : ((D : Int) == 10) = true := by rw [beq_iff_eq]; omega
            clear hD
            go_wp2
            have q := HB.out
            go_roundg (s.size - (pos + K))
            case measure => omega
            case rel =>
              refine ⟨pos + K, rc + 1, pos + 1, line + 1, 0, by go_num, by go_num, rfl, by omega, by omega, by omega, ⟨by omega, by omega, by omega, by omega⟩, ?_, ((HQ.out.s2 _).s3 _), ((HC.out.setCell (p := ⟨E, 2, none⟩) (Or.inl (by simp)) _).setCell (p := ⟨E, 3, none⟩) (Or.inl (by simp)) _)⟩
              exact (set_other _ (Ne.symm hEI)).trans ((set_other _ (Ne.symm hEI)).trans HI.out)
          · have z : ((D : Int) == 10) = false := by rw [beq_eq_false_iff_ne]; omega
            clear hD
            go_wp2
            have q := HB.out
            go_roundg (s.size - (pos + K))
            case measure => omega
            case rel =>
              refine ⟨pos + K, rc + 1, ls, line, col + 1, by go_num, rfl, rfl, by omega, by omega, by omega, ⟨by omega, by omega, by omega, by omega⟩, ?_, (HQ.out.s3 _), (HC.out.setCell (p := ⟨E, 3, none⟩) (Or.inl (by simp)) _)⟩
              exact (set_other _ (Ne.symm hEI)).trans HI.out
      · have hnx := fun ty => run_next_end_at (P := Tryz.prog) wr It s pos ty hit hlt
        have HQ := Lib.hid hq
        have HC := Lib.hid hc
        have q := Lib.hid (show ls ≤ s.size ∧ 0 ≤ col ∧ col ≤ 1073741824 from ⟨by omega, hlc.2.2.1, by omega⟩)
        clear hq hc hk hp hrc hls hlc hlt hit
        go_wp2
        go_meet
        exact ⟨ls, rfl, q.out.1, line, col, q.out.2.1, q.out.2.2, HQ.out, HC.out⟩
  case rest =>
    obtain ⟨ls, rfl, hls, line, col, hc0, hc1, hq, hc⟩ := hcut
    clear hqX hcX hitX
    have cI := fun W => Tryz.strings_IndexByte (s.extract ls s.size) 10 W
    have hz := index_bounds (s.extract ls s.size).data.toList (Int.toNat 10).toUInt8
    have hzl : (s.extract ls s.size).data.toList.length = s.size - ls := by
      show (s.extract ls s.size).size = _
      rw [ByteArray.size_extract]; omega
    rw [hzl] at hz
    generalize Lib.indexByte _ _ = z at cI hz
    have cI := fun W => (cI W).mono (R' := fun e w' => e = .returned (.int .i64 z) ∧ W = w') (fun e w' h => ⟨h.1, h.2.symm⟩)
    have hlz : (ls : Int) ≤ (s.size : Int) := by omega
    have hlz2 : (s.size : Int) ≤ 1073741824 := by omega
    have z1 : z ≤ 1073741824 := by omega
    have z2 : -1 ≤ z := hz.1
    have hcase : (z = -1) ∨ (∃ le : Nat, (ls : Int) + z = (le : Int) ∧ ls ≤ le ∧ le ≤ s.size ∧ ¬ (le : Int) < (ls : Int)) := by
      by_cases h1 : z = -1
      · exact Or.inl h1
      · exact Or.inr ⟨((ls : Int) + z).toNat, by omega, by omega, by omega, by omega⟩
    have HQ := Lib.hid hq
    have HC := Lib.hid hc
    have HL := Lib.hid hc0
    have HL2 := Lib.hid hc1
    clear hz hzl hq hc
    rcases hcase with rfl | ⟨le, hle, hl1, hl2, hl3⟩
    · have hle : (ls : Int) + -1 < (ls : Int) := by omega
      by_cases he : ls = s.size
      · have hee : ((ls : Int) == (s.size : Int)) = true := by rw [beq_iff_eq]; omega
        clear he
        go_wp2_with (go_at_call 42; refine (cI _).mono ?_; rintro e w2 ⟨rfl, rfl⟩)
        exact bodyPost_ret (v := .pointer (some ⟨E, 0, none⟩)) (results_tmp (t := 4) Tryz.results29 _ _ _) rfl ⟨rfl, HC.out⟩
      · have hee : ((ls : Int) == (s.size : Int)) = false := by rw [beq_eq_false_iff_ne]; omega
        clear he
        go_upto_region 20 with (go_at_call 42; refine (cI _).mono ?_; rintro e w2 ⟨rfl, rfl⟩)
        obtain ⟨Lb, hLb⟩ : ∃ Lb, s.extract ls s.size = Lb := ⟨_, rfl⟩
        have hLs : Lb.size ≤ 1073741824 := by rw [← hLb, ByteArray.size_extract]; omega
        obtain ⟨N, hN⟩ : ∃ N : Nat, 8 + (Lb.size : Int) + col + 1 = (N : Int) := ⟨(8 + (Lb.size : Int) + col + 1).toNat, by have := HL.out; omega⟩
        have hN2 : N ≤ 281474976710656 := by have := HL2.out; omega
        have b1 : (Lb.size : Int) ≤ 1073741824 := by omega
        have b2 : 0 ≤ col := HL.out
        have b3 : col ≤ 1073741824 := HL2.out
        have hNb : (N : Int) ≤ 281474976710656 := by omega
        obtain ⟨K, hK⟩ : ∃ K, wc.heap.size = K := ⟨_, rfl⟩
        have c3 := HQ.out.c3
        have hlt := HQ.out.lt
        have hEK : E < K := by rw [← hK]; exact hlt
        have cG := fun W hbk hBw => Tryz.Builder_Grow_fresh K K N W (Nat.le_refl _) hbk hBw hN2
        go_wp2_with (fail)
        generalize hX : wc.alloc _ = X
        have hbk : X.heap[K]? = some (.cells #[.pointer none, .slice none 0 0] 79 (0, 0)) := by rw [← hX, ← hK]; exact alloc_new wc _
        have hqX : EB X E a b msg line col ⟨#[]⟩ := by rw [← hX]; exact HQ.out.alloc _
        have hcX : Ch [E] w X := by rw [← hX]; exact HC.out.alloc _
        have hwK : w.heap.size ≤ K := by rw [← hK]; exact HC.out.size
        clear hX hK c3 hlt cI
        refine (cG X hbk (Nat.le_of_lt (block_lt hbk))).mono ?_
        rintro e w2 ⟨rfl, hbd, hb2⟩
        have hB : BD w E K a b msg line col [] w2 := ⟨(hb2.block E hEK).trans hqX, ⟨hb2.os.trans hcX.os, hb2.tape.trans hcX.tape, hb2.output.trans hcX.output, Nat.le_trans hcX.size hb2.size, fun k hk hS => (hb2.block k (Nat.lt_of_lt_of_le hk hwK)).trans (hcX.block k hk hS)⟩, hbd, hEK, hwK⟩
        have HB := Lib.hid hB
        clear cG hbk hqX hcX hbd hb2 hB HQ HC hN hNb
        go_wp2_with (fail)
        refine (Tryz.Builder_WriteString K K [] pfx w2 (Or.inr HB.out.bd) (by decide) (Nat.le_of_lt HB.out.lk)).mono ?_
        rintro e w3 ⟨rfl, hbd, hb3⟩
        have HB3 := Lib.hid (HB.out.write hb3 hbd)
        clear hbd hb3 HB
        go_wp2_with (fail)
        refine (replace_tab Lb w3 hLs).mono ?_
        rintro e w4 ⟨hb4, r, rfl, hr⟩
        have HB4 := Lib.hid (HB3.out.keep hb4)
        have HR := Lib.hid hr
        clear hb4 HB3 hr
        go_wp2_with (fail)
        refine (Tryz.Builder_WriteString K K ([] ++ strCells pfx) r w4 (Or.inr HB4.out.bd) (by have := HR.out; show 4 + r.size ≤ _; omega) (Nat.le_of_lt HB4.out.lk)).mono ?_
        rintro e w5 ⟨rfl, hbd, hb5⟩
        have HB5 := Lib.hid (HB4.out.write hb5 hbd)
        clear hbd hb5 HB4
        obtain ⟨l0, hl0, hll0⟩ : ∃ l0 : List UInt8, [] ++ strCells pfx ++ strCells r = Lib.byteCells l0 ∧ l0.length ≤ 1073741828 := by
          refine ⟨pfx.data.toList ++ r.data.toList, by rw [List.nil_append, Lib.strCells_eq, Lib.strCells_eq, Lib.byteCells_append], ?_⟩
          rw [List.length_append]
          have := HR.out
          have hz : r.data.toList.length = r.size := rfl
          have hy : pfx.data.toList.length = 4 := rfl
          omega
        rw [hl0] at HB5
        have HL3 := Lib.hid hll0
        clear hl0 hll0
        go_wp2_with (fail)
        refine (Tryz.Builder_WriteString K K (Lib.byteCells l0) pfx w5 (Or.inr HB5.out.bd) (by have := HL3.out; rw [Lib.byteCells_length]; show l0.length + 4 ≤ _; omega) (Nat.le_of_lt HB5.out.lk)).mono ?_
        rintro e w6 ⟨rfl, hbd, hb6⟩
        rw [Lib.strCells_eq, ← Lib.byteCells_append] at hbd
        have HB6 := Lib.hid (HB5.out.write hb6 hbd)
        clear hbd hb6 HB5
        go_wp2_with (fail)
        go_loopg [13] (col.toNat + 1) (fun k v wr => ∃ (m : Nat) (l : List UInt8), v = .int .i64 (m : Int) ∧ (m : Int) ≤ col ∧ k = col.toNat + 1 - m ∧ l.length ≤ 1073741832 + m ∧ BD w E K a b msg line col (Lib.byteCells l) wr)
        case atStart =>
          refine ⟨0, _, rfl, b2, rfl, ?_, HB6.out⟩
          have := HL3.out
          rw [List.length_append]
          show l0.length + 4 ≤ _
          omega
        case round =>
          clear HB6
          obtain ⟨m, l, rfl, hm, hk, hcl, hB⟩ := hrel
          have c3 := hB.eb.c3
          have HB := Lib.hid hB
          have HK := Lib.hid (show gk = col.toNat + 1 - m ∧ l.length ≤ 1073741832 + m from ⟨hk, hcl⟩)
          clear hB hk hcl
          by_cases hmc : (m : Int) < col
          · go_wp2_with (fail)
            refine (Tryz.Builder_WriteByte K K (Lib.byteCells l) 46 wr (Or.inr HB.out.bd) (by have := HK.out.2; rw [Lib.byteCells_length]; omega) (Nat.le_of_lt HB.out.lk)).mono ?_
            rintro e w7 ⟨rfl, hbd, hb7⟩
            have hbd2 : Lib.BuilderAt 79 5 K K (.pointer (some ⟨K, 0, none⟩)) (Lib.byteCells (l ++ [46])) w7 := by rw [Lib.byteCells_append]; exact hbd
            have HB7 := Lib.hid (HB.out.write hb7 hbd2)
            clear hbd hbd2 hb7 HB c3
            go_wp2
            go_roundg (col.toNat + 1 - (m + 1))
            case measure => have := HK.out.1; omega
            case rel =>
              refine ⟨m + 1, _, by go_num, by omega, rfl, ?_, HB7.out⟩
              have := HK.out.2
              simp only [List.length_append, List.length_cons, List.length_nil]
              omega
          · go_wp2_with (fail)
            refine (Tryz.Builder_WriteByte K K (Lib.byteCells l) 94 wr (Or.inr HB.out.bd) (by have := HK.out.2; rw [Lib.byteCells_length]; omega) (Nat.le_of_lt HB.out.lk)).mono ?_
            rintro e w7 ⟨rfl, hbd, hb7⟩
            have hbd2 : Lib.BuilderAt 79 5 K K (.pointer (some ⟨K, 0, none⟩)) (Lib.byteCells (l ++ [94])) w7 := by rw [Lib.byteCells_append]; exact hbd
            have HB7 := Lib.hid (HB.out.write hb7 hbd2)
            clear hbd hbd2 hb7 HB c3
            go_wp2_with (fail)
            refine (Tryz.Builder_String_any K K (l ++ [94]) w7 (Or.inr HB7.out.bd) (Nat.le_of_lt HB7.out.lk)).mono ?_
            rintro e w8 ⟨rfl, hb8⟩
            have hq8 : EB w8 E a b msg line col ⟨#[]⟩ := (hb8.block E hEK).trans HB7.out.eb
            have c5 := hq8.c5
            have f5 := hq8.f 5
            have hch : Ch [E] w w8 := ⟨hb8.os.trans HB7.out.ch.os, hb8.tape.trans HB7.out.ch.tape, hb8.output.trans HB7.out.ch.output, Nat.le_trans HB7.out.ch.size hb8.size, fun k hk hS => (hb8.block k (Nat.lt_of_lt_of_le hk hwK)).trans (HB7.out.ch.block k hk hS)⟩
            have HC8 := Lib.hid hch
            clear hq8 hb8 HB7 hch
            go_wp2
            exact bodyPost_ret (v := .pointer (some ⟨E, 0, none⟩)) (results_tmp (t := 4) Tryz.results29 _ _ _) rfl ⟨rfl, HC8.out.setCell (p := ⟨E, 5, none⟩) (Or.inl (by simp)) _⟩
    · by_cases he : ls = le
      · have hee : ((ls : Int) == (le : Int)) = true := by rw [beq_iff_eq]; omega
        clear he
        go_wp2_with (go_at_call 42; refine (cI _).mono ?_; rintro e w2 ⟨rfl, rfl⟩)
        exact bodyPost_ret (v := .pointer (some ⟨E, 0, none⟩)) (results_tmp (t := 4) Tryz.results29 _ _ _) rfl ⟨rfl, HC.out⟩
      · have hee : ((ls : Int) == (le : Int)) = false := by rw [beq_eq_false_iff_ne]; omega
        have hlz3 : (ls : Int) ≤ (le : Int) := by omega
        have hlz4 : (le : Int) ≤ (s.size : Int) := by omega
        clear he
        go_upto_region 20 with (go_at_call 42; refine (cI _).mono ?_; rintro e w2 ⟨rfl, rfl⟩)
        obtain ⟨Lb, hLb⟩ : ∃ Lb, s.extract ls le = Lb := ⟨_, rfl⟩
        have hLs : Lb.size ≤ 1073741824 := by rw [← hLb, ByteArray.size_extract]; omega
        obtain ⟨N, hN⟩ : ∃ N : Nat, 8 + (Lb.size : Int) + col + 1 = (N : Int) := ⟨(8 + (Lb.size : Int) + col + 1).toNat, by have := HL.out; omega⟩
        have hN2 : N ≤ 281474976710656 := by have := HL2.out; omega
        have b1 : (Lb.size : Int) ≤ 1073741824 := by omega
        have b2 : 0 ≤ col := HL.out
        have b3 : col ≤ 1073741824 := HL2.out
        have hNb : (N : Int) ≤ 281474976710656 := by omega
        obtain ⟨K, hK⟩ : ∃ K, wc.heap.size = K := ⟨_, rfl⟩
        have c3 := HQ.out.c3
        have hlt := HQ.out.lt
        have hEK : E < K := by rw [← hK]; exact hlt
        have cG := fun W hbk hBw => Tryz.Builder_Grow_fresh K K N W (Nat.le_refl _) hbk hBw hN2
        go_wp2_with (fail)
        generalize hX : wc.alloc _ = X
        have hbk : X.heap[K]? = some (.cells #[.pointer none, .slice none 0 0] 79 (0, 0)) := by rw [← hX, ← hK]; exact alloc_new wc _
        have hqX : EB X E a b msg line col ⟨#[]⟩ := by rw [← hX]; exact HQ.out.alloc _
        have hcX : Ch [E] w X := by rw [← hX]; exact HC.out.alloc _
        have hwK : w.heap.size ≤ K := by rw [← hK]; exact HC.out.size
        clear hX hK c3 hlt cI
        refine (cG X hbk (Nat.le_of_lt (block_lt hbk))).mono ?_
        rintro e w2 ⟨rfl, hbd, hb2⟩
        have hB : BD w E K a b msg line col [] w2 := ⟨(hb2.block E hEK).trans hqX, ⟨hb2.os.trans hcX.os, hb2.tape.trans hcX.tape, hb2.output.trans hcX.output, Nat.le_trans hcX.size hb2.size, fun k hk hS => (hb2.block k (Nat.lt_of_lt_of_le hk hwK)).trans (hcX.block k hk hS)⟩, hbd, hEK, hwK⟩
        have HB := Lib.hid hB
        clear cG hbk hqX hcX hbd hb2 hB HQ HC hN hNb
        go_wp2_with (fail)
        refine (Tryz.Builder_WriteString K K [] pfx w2 (Or.inr HB.out.bd) (by decide) (Nat.le_of_lt HB.out.lk)).mono ?_
        rintro e w3 ⟨rfl, hbd, hb3⟩
        have HB3 := Lib.hid (HB.out.write hb3 hbd)
        clear hbd hb3 HB
        go_wp2_with (fail)
        refine (replace_tab Lb w3 hLs).mono ?_
        rintro e w4 ⟨hb4, r, rfl, hr⟩
        have HB4 := Lib.hid (HB3.out.keep hb4)
        have HR := Lib.hid hr
        clear hb4 HB3 hr
        go_wp2_with (fail)
        refine (Tryz.Builder_WriteString K K ([] ++ strCells pfx) r w4 (Or.inr HB4.out.bd) (by have := HR.out; show 4 + r.size ≤ _; omega) (Nat.le_of_lt HB4.out.lk)).mono ?_
        rintro e w5 ⟨rfl, hbd, hb5⟩
        have HB5 := Lib.hid (HB4.out.write hb5 hbd)
        clear hbd hb5 HB4
        obtain ⟨l0, hl0, hll0⟩ : ∃ l0 : List UInt8, [] ++ strCells pfx ++ strCells r = Lib.byteCells l0 ∧ l0.length ≤ 1073741828 := by
          refine ⟨pfx.data.toList ++ r.data.toList, by rw [List.nil_append, Lib.strCells_eq, Lib.strCells_eq, Lib.byteCells_append], ?_⟩
          rw [List.length_append]
          have := HR.out
          have hz : r.data.toList.length = r.size := rfl
          have hy : pfx.data.toList.length = 4 := rfl
          omega
        rw [hl0] at HB5
        have HL3 := Lib.hid hll0
        clear hl0 hll0
        go_wp2_with (fail)
        refine (Tryz.Builder_WriteString K K (Lib.byteCells l0) pfx w5 (Or.inr HB5.out.bd) (by have := HL3.out; rw [Lib.byteCells_length]; show l0.length + 4 ≤ _; omega) (Nat.le_of_lt HB5.out.lk)).mono ?_
        rintro e w6 ⟨rfl, hbd, hb6⟩
        rw [Lib.strCells_eq, ← Lib.byteCells_append] at hbd
        have HB6 := Lib.hid (HB5.out.write hb6 hbd)
        clear hbd hb6 HB5
        go_wp2_with (fail)
        go_loopg [13] (col.toNat + 1) (fun k v wr => ∃ (m : Nat) (l : List UInt8), v = .int .i64 (m : Int) ∧ (m : Int) ≤ col ∧ k = col.toNat + 1 - m ∧ l.length ≤ 1073741832 + m ∧ BD w E K a b msg line col (Lib.byteCells l) wr)
        case atStart =>
          refine ⟨0, _, rfl, b2, rfl, ?_, HB6.out⟩
          have := HL3.out
          rw [List.length_append]
          show l0.length + 4 ≤ _
          omega
        case round =>
          clear HB6
          obtain ⟨m, l, rfl, hm, hk, hcl, hB⟩ := hrel
          have c3 := hB.eb.c3
          have HB := Lib.hid hB
          have HK := Lib.hid (show gk = col.toNat + 1 - m ∧ l.length ≤ 1073741832 + m from ⟨hk, hcl⟩)
          clear hB hk hcl
          by_cases hmc : (m : Int) < col
          · go_wp2_with (fail)
            refine (Tryz.Builder_WriteByte K K (Lib.byteCells l) 46 wr (Or.inr HB.out.bd) (by have := HK.out.2; rw [Lib.byteCells_length]; omega) (Nat.le_of_lt HB.out.lk)).mono ?_
            rintro e w7 ⟨rfl, hbd, hb7⟩
            have hbd2 : Lib.BuilderAt 79 5 K K (.pointer (some ⟨K, 0, none⟩)) (Lib.byteCells (l ++ [46])) w7 := by rw [Lib.byteCells_append]; exact hbd
            have HB7 := Lib.hid (HB.out.write hb7 hbd2)
            clear hbd hbd2 hb7 HB c3
            go_wp2
            go_roundg (col.toNat + 1 - (m + 1))
            case measure => have := HK.out.1; omega
            case rel =>
              refine ⟨m + 1, _, by go_num, by omega, rfl, ?_, HB7.out⟩
              have := HK.out.2
              simp only [List.length_append, List.length_cons, List.length_nil]
              omega
          · go_wp2_with (fail)
            refine (Tryz.Builder_WriteByte K K (Lib.byteCells l) 94 wr (Or.inr HB.out.bd) (by have := HK.out.2; rw [Lib.byteCells_length]; omega) (Nat.le_of_lt HB.out.lk)).mono ?_
            rintro e w7 ⟨rfl, hbd, hb7⟩
            have hbd2 : Lib.BuilderAt 79 5 K K (.pointer (some ⟨K, 0, none⟩)) (Lib.byteCells (l ++ [94])) w7 := by rw [Lib.byteCells_append]; exact hbd
            have HB7 := Lib.hid (HB.out.write hb7 hbd2)
            clear hbd hbd2 hb7 HB c3
            go_wp2_with (fail)
            refine (Tryz.Builder_String_any K K (l ++ [94]) w7 (Or.inr HB7.out.bd) (Nat.le_of_lt HB7.out.lk)).mono ?_
            rintro e w8 ⟨rfl, hb8⟩
            have hq8 : EB w8 E a b msg line col ⟨#[]⟩ := (hb8.block E hEK).trans HB7.out.eb
            have c5 := hq8.c5
            have f5 := hq8.f 5
            have hch : Ch [E] w w8 := ⟨hb8.os.trans HB7.out.ch.os, hb8.tape.trans HB7.out.ch.tape, hb8.output.trans HB7.out.ch.output, Nat.le_trans HB7.out.ch.size hb8.size, fun k hk hS => (hb8.block k (Nat.lt_of_lt_of_le hk hwK)).trans (HB7.out.ch.block k hk hS)⟩
            have HC8 := Lib.hid hch
            clear hq8 hb8 HB7 hch
            go_wp2
            exact bodyPost_ret (v := .pointer (some ⟨E, 0, none⟩)) (results_tmp (t := 4) Tryz.results29 _ _ _) rfl ⟨rfl, HC8.out.setCell (p := ⟨E, 5, none⟩) (Or.inl (by simp)) _⟩

end Go.Proofs.YtdlkdojgbiahgaaGreatFmt.Lx
