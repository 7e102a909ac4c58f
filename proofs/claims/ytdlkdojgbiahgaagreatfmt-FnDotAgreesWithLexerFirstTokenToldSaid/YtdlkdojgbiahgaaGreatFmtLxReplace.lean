/-
  The contracts of zzIndex and zzReplaceAll, for one tab and one blank: some text as long as the first. Condition: the text has at most 2^30 bytes.
-/
import Derived.Test.YtdlkdojgbiahgaaGreatFmtLxErr
import Derived.Test.YtdlkdojgbiahgaaGreatFmtLxNtLaw
import Derived.Lib.BufferRead
namespace Go.Proofs.YtdlkdojgbiahgaaGreatFmt.Lx
open Go.RowKit Go.Lib

def tabB : ByteArray := ⟨#[9]⟩
def spcB : ByteArray := ⟨#[32]⟩

set_option maxHeartbeats 2000000 in
theorem index_tab (s : ByteArray) (w : World) (hs : s.size ≤ 1073741824) :
    Calls Tryz.prog 71 #[.string s, .string tabB] w fun e w' => w = w' ∧ (e = .returned (.int .i64 (-1)) ∨ ∃ i : Nat, e = .returned (.int .i64 (i : Int)) ∧ i + 1 ≤ s.size) := by
  have e1 : tabB.size = 1 := rfl
  unfold tabB
  go_enter Tryz.func71, Tryz.ntmps71
  go_wp2_with (fail)
  go_loopw [5] (fun v wr => ∃ m : Nat, m ≤ s.size ∧ v = .int .i64 (m : Int) ∧ w = wr) (fun v _ => s.size - (intOf v).toNat)
  case atStart => exact ⟨0, Nat.zero_le _, rfl, rfl⟩
  case round =>
    obtain ⟨m, hm, rfl, rfl⟩ := hrel
    by_cases hlt : m + 1 ≤ s.size
    · have hlz : (m : Int) + 1 ≤ (s.size : Int) := by omega
      have hmz : (m : Int) < (s.size : Int) := by omega
      obtain ⟨b, hb⟩ : ∃ b, ((s.extract m (m + 1)).toList == [9]) = b := ⟨_, rfl⟩
      cases b with
      | true =>
        go_wp2
        go_ret
        exact ⟨rfl, Or.inr ⟨m, rfl, hlt⟩⟩
      | false =>
        go_wp2
        go_roundw
        case rel => exact ⟨m + 1, hlt, by go_num, trivial⟩
        case measure => simp [intOf]; omega
    · have hlz : ¬ (m : Int) + 1 ≤ (s.size : Int) := by omega
      go_wp2
      go_ret
      exact ⟨rfl, Or.inl rfl⟩

theorem conv_row {w : World} {B n : Nat} {v : Value} {l : List UInt8} (h : w.ownsRow B 5 1 v n (l.map fun b => Value.int .u8 b.toNat)) :
    (convert 24 9 v).run Tryz.prog w = .ok (.string ⟨l.toArray⟩) w := by
  have hl : l.length = n := by have := h.1; simpa using this
  rcases h.2 with ⟨rfl, h0⟩ | ⟨g, cap, cur, rfl, hB, hg, hr⟩
  · have : l = [] := List.eq_nil_of_length_eq_zero (by omega)
    subst this
    exact run_convert_nil_bytes w 24 9 5 0 Tryz.underlying24 Tryz.underlying5 Tryz.underlying9
  · have hc := run_convert_bytes_back (P := Tryz.prog) w 24 9 5 ⟨g, 0, none⟩ cap l Tryz.underlying24 Tryz.underlying5 Tryz.underlying9 (fun j hj => h.cells rfl j _ (by rw [List.getElem?_map, List.getElem?_eq_getElem hj]; rfl))
    rw [hl] at hc
    exact hc
theorem grown_below {w w1 w2 : World} {B : Nat} {v : Value} {n : Nat} {xs : List Value} (h : Below B w w1) (hr : w1.ownsRow B 5 1 v n xs) (hg : w1.grownBy w2 v.ownBlock) (hB : B ≤ w1.heap.size) : Below B w w2 := by
  refine h.trans ⟨hg.os, hg.tape, hg.output, hg.size, fun k hk => hg.block k (by omega) ?_⟩
  intro e
  have := (hr.lt k e.symm).1
  omega
theorem strCells_map (s : ByteArray) : strCells s = s.data.toList.map fun b => Value.int .u8 b.toNat := rfl

set_option maxHeartbeats 8000000 in
theorem replace_tab (s : ByteArray) (w : World) (hs : s.size ≤ 1073741824) :
    Calls Tryz.prog 45 #[.string s, .string tabB, .string spcB] w fun e w' => Below w.heap.size w w' ∧ ∃ r : ByteArray, e = .returned (.string r) ∧ r.size = s.size := by
  obtain ⟨i, hi, hzz⟩ := Option.map_eq_some_iff.1 u8_info
  simp only [Prod.mk.injEq] at hzz
  obtain ⟨hz, hs1, hby⟩ := hzz
  have HI := Lib.hid (show Tryz.prog.info? 5 = some i ∧ i.size = 1 ∧ i.zero = some (.int .u8 0) ∧ i.bytes = 1 from ⟨hi, hs1, hz, hby⟩)
  clear hi hs1 hz hby
  have et : tabB.size = 1 := rfl
  have ci := fun t W (ht : ByteArray.size t ≤ 1073741824) => index_tab t W ht
  have HC := Lib.hid ci
  have HW := Lib.hid (show (1 : Nat) = 1 from rfl)
  clear ci
  unfold tabB spcB
  go_enter Tryz.func45, Tryz.ntmps45
  go_wp2_with (fail)
  go_loopg [0, 7] (s.size) (fun k v0 v7 wr => ∃ (t : ByteArray) (l : List UInt8), v0 = .string t ∧ k = t.size ∧ l.length + t.size = s.size ∧ wr.ownsRow w.heap.size 5 1 v7 l.length (l.map fun b => Value.int .u8 b.toNat) ∧ Below w.heap.size w wr)
  case atStart => exact ⟨s, [], rfl, rfl, by simp, ⟨rfl, Or.inl ⟨rfl, rfl⟩⟩, Below.refl _ _⟩
  case round =>
    obtain ⟨t, l, rfl, hk, hlen, hrow, hb⟩ := hrel
    have cz := HC.out t wr (by omega)
    unfold tabB at cz
    have HR := Lib.hid hrow
    have HB := Lib.hid hb
    have HK := Lib.hid (show gk = t.size ∧ l.length + t.size = s.size from ⟨hk, hlen⟩)
    have hts : t.size ≤ 1073741824 := by omega
    have hll : l.length ≤ 1073741824 := by omega
    clear hrow hb hk hlen HC
    go_wp2_with (fail)
    refine cz.mono ?_
    rintro e w1 ⟨rfl, rfl | ⟨j, rfl, hj⟩⟩
    · clear cz
      have h63 : l.length + t.size ≤ maxLen := Nat.le_trans (show l.length + t.size ≤ 2147483648 by omega) (by decide)
      go_wp2_with (at_builtin; refine wpList_append_own_string _ rfl _ _ 24 9 rfl w.heap.size 5 i Tryz.underlying24 Tryz.underlying9 HI.out.1 HI.out.2.2.1 HI.out.2.1 HI.out.2.2.2 _ _ _ rfl HR.out t rfl h63 (by omega) HB.out.size ?_)
      intro v2 w2 hrow2 hg2 _
      have hb2 := grown_below HB.out HR.out hg2 HB.out.size
      rw [strCells_map, ← List.map_append] at hrow2
      have hconv := conv_row hrow2
      have HB2 := Lib.hid hb2
      clear hrow2 hg2 hb2 HR HB
      go_wp2
      go_ret
      refine ⟨HB2.out, _, rfl, ?_⟩
      have := HK.out.2
      show (l ++ t.data.toList).toArray.size = _
      rw [List.size_toArray, List.length_append]
      have hz : t.data.toList.length = t.size := rfl
      omega
    · have hjz : (j : Int) + 1 ≤ (t.size : Int) := by omega
      have hjz2 : (j : Int) ≤ (t.size : Int) := by omega
      have hj0 : ¬ (j : Int) < 0 := by omega
      have hjs : (t.extract 0 j).size = j := size_take t j (by omega)
      have h63 : l.length + (t.extract 0 j).size ≤ maxLen := Nat.le_trans (show l.length + (t.extract 0 j).size ≤ 2147483648 by omega) (by decide)
      have h47 : l.length + (t.extract 0 j).size ≤ 140737488355328 := by omega
      clear cz
      go_wp2_with (at_builtin; refine wpList_append_own_string _ rfl _ _ 24 9 rfl w.heap.size 5 i Tryz.underlying24 Tryz.underlying9 HI.out.1 HI.out.2.2.1 HI.out.2.1 HI.out.2.2.2 _ _ _ rfl HR.out (t.extract 0 j) rfl h63 h47 HB.out.size ?_)
      intro v2 w2 hrow2 hg2 _
      have hb2 := grown_below HB.out HR.out hg2 HB.out.size
      rw [strCells_map, ← List.map_append] at hrow2
      have HR2 := Lib.hid hrow2
      have HB2 := Lib.hid hb2
      clear hrow2 hg2 hb2 HR HB
      obtain ⟨n2, hn2⟩ : ∃ n2, l.length + (t.extract 0 j).size = n2 := ⟨_, rfl⟩
      obtain ⟨l2, hl2⟩ : ∃ l2, l ++ (t.extract 0 j).data.toList = l2 := ⟨_, rfl⟩
      have hr2 : w2.ownsRow w.heap.size 5 1 v2 n2 (l2.map fun b => Value.int .u8 b.toNat) := by rw [← hn2, ← hl2, hjs]; exact HR2.out
      have HR3 := Lib.hid hr2
      have h632 : n2 + ByteArray.size ⟨#[32]⟩ ≤ maxLen := Nat.le_trans (show n2 + 1 ≤ 2147483648 by omega) (by decide)
      have h472 : n2 + ByteArray.size ⟨#[32]⟩ ≤ 140737488355328 := show n2 + 1 ≤ _ by omega
      have HL2 := Lib.hid hl2
      clear hr2 HR2 hl2
      go_wp2_with (at_builtin; refine wpList_append_own_string _ rfl _ _ 24 9 rfl w.heap.size 5 i Tryz.underlying24 Tryz.underlying9 HI.out.1 HI.out.2.2.1 HI.out.2.1 HI.out.2.2.2 _ _ _ rfl HR3.out ⟨#[32]⟩ rfl h632 h472 HB2.out.size ?_)
      intro v3 w3 hrow3 hg3 _
      have hb3 := grown_below HB2.out HR3.out hg3 HB2.out.size
      have hrow4 : w3.ownsRow w.heap.size 5 1 v3 (n2 + 1) ((l2 ++ ([32] : List UInt8)).map fun b => Value.int .u8 b.toNat) := by
        rw [List.map_append]; exact hrow3
      have HR4 := Lib.hid hrow4
      have HB3 := Lib.hid hb3
      clear hrow3 hg3 hb3 hrow4 HR3 HB2
      go_wp2
      have hl4 : (l2 ++ ([32] : List UInt8)).length = n2 + 1 := by
        rw [List.length_append, ← HL2.out, List.length_append]
        have hz : (t.extract 0 j).data.toList.length = (t.extract 0 j).size := rfl
        rw [hz, hn2]; rfl
      have hsz : (t.extract (j + 1) t.size).size = t.size - (j + 1) := by rw [ByteArray.size_extract]; omega
      go_roundg (t.size - (j + 1))
      case measure => have := HK.out.1; omega
      case rel =>
        refine ⟨t.extract (j + 1) t.size, _, rfl, hsz.symm, ?_, by rw [hl4]; exact HR4.out, HB3.out⟩
        rw [hl4, hsz]
        have := HK.out.2
        omega

end Go.Proofs.YtdlkdojgbiahgaaGreatFmt.Lx
