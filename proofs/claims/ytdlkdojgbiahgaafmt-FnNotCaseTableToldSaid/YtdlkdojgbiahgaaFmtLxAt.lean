/-
  Contracts of the two shims that make a lexer, of next over k runes, and of the law helper zzAt. Conditions: the tables are laid, the text has at most 2^30 bytes.
-/
import Derived.Test.YtdlkdojgbiahgaaFmtLxNew
import Derived.Test.YtdlkdojgbiahgaaFmtLxNext
import Derived.Test.YtdlkdojgbiahgaaFmtLxPeek
namespace Go.Proofs.YtdlkdojgbiahgaaFmt.Lx
open Go.RowKit Go.Lib

theorem new_lx (w : World) : LX 64 ((w.alloc (.cells (ringCells (.slice none 0 0) 0 0) 79)).alloc (.cells (LS.blank w.heap.size).cells 64)) (w.heap.size + 1) (LS.blank w.heap.size) := by
  have h := alloc_new (w.alloc (.cells (ringCells (.slice none 0 0) 0 0) 79)) (.cells (LS.blank w.heap.size).cells 64)
  rw [show (w.alloc (.cells (ringCells (.slice none 0 0) 0 0) 79)).heap.size = w.heap.size + 1 by simp] at h
  exact h
theorem new_rn (w : World) (o : Obj) : RN 79 ((w.alloc (.cells (ringCells (.slice none 0 0) 0 0) 79)).alloc o) w.heap.size := alloc_old _ (alloc_new w _)
theorem new_below (w : World) (o o2 : Obj) : Below w.heap.size w ((w.alloc o).alloc o2) := ((Below.refl _ _).alloc (Nat.le_refl _) _).alloc (by simp) _

theorem newSource (s : ByteArray) (w : World) : Calls Tryf.prog 49 #[.string s] w fun e w' => e = .returned (.agg #[.string s]) ∧ w.alloc (.cells #[.string s] 60) = w' := by
  go_enter Tryf.func49, Tryf.ntmps49
  go_wp2
  exact bodyPost_ret (v := .agg #[.string s]) (by simp [results, Tryf.results49, go_sem]) rfl ⟨rfl, rfl⟩

set_option maxHeartbeats 1000000 in
theorem fresh75 (s : ByteArray) (w : World) : Calls Tryf.prog 40 #[.string s] w (Fresh s w) := by
  have hx := new_lx w
  have hr := new_rn w (.cells (LS.blank w.heap.size).cells 64)
  have hb := new_below w (.cells (ringCells (.slice none 0 0) 0 0) 79) (.cells (LS.blank w.heap.size).cells 64)
  have cN := lexer_New w
  obtain ⟨W, hW⟩ : ∃ W, (w.alloc (.cells (ringCells (.slice none 0 0) 0 0) 79)).alloc (.cells (LS.blank w.heap.size).cells 64) = W := ⟨_, rfl⟩
  rw [hW] at hx hr hb cN
  clear hW
  have hb2 := hb.alloc hb.size (.cells #[.string s] 60)
  have cR := lexer_reset_new (w.heap.size + 1) w.heap.size (LS.blank w.heap.size) s _ (hx.alloc (.cells #[.string s] 60)) (alloc_old _ hr) (by omega) rfl
  go_enter Tryf.func40, Tryf.ntmps40
  go_wp2_with (first | (go_at_call 47; refine cN.mono ?_; rintro e w1 ⟨rfl, rfl⟩) | (go_at_call 49; refine (newSource s _).mono ?_; rintro e w1 ⟨rfl, rfl⟩) | (go_at_call 48; refine cR.mono ?_; rintro e w2 ⟨rfl, hc, hx2, hr2⟩))
  go_ret
  exact ⟨w.heap.size + 1, w.heap.size, rfl, hb2.trans (hc.below (fun k hk => by simp at hk; omega) hb2.size), by omega, by omega, by omega, hx2, hr2⟩

set_option maxHeartbeats 1000000 in
/-- The same beginning, in the other shim. -/
theorem fresh88 (s : ByteArray) (w : World) : Calls Tryf.prog 35 #[.string s] w (Fresh s w) := by
  have hx := new_lx w
  have hr := new_rn w (.cells (LS.blank w.heap.size).cells 64)
  have hb := new_below w (.cells (ringCells (.slice none 0 0) 0 0) 79) (.cells (LS.blank w.heap.size).cells 64)
  have cN := lexer_New w
  obtain ⟨W, hW⟩ : ∃ W, (w.alloc (.cells (ringCells (.slice none 0 0) 0 0) 79)).alloc (.cells (LS.blank w.heap.size).cells 64) = W := ⟨_, rfl⟩
  rw [hW] at hx hr hb cN
  clear hW
  have hb2 := hb.alloc hb.size (.cells #[.string s] 60)
  have cR := lexer_reset_new (w.heap.size + 1) w.heap.size (LS.blank w.heap.size) s _ (hx.alloc (.cells #[.string s] 60)) (alloc_old _ hr) (by omega) rfl
  go_enter Tryf.func35, Tryf.ntmps35
  go_wp2_with (first | (go_at_call 47; refine cN.mono ?_; rintro e w1 ⟨rfl, rfl⟩) | (go_at_call 49; refine (newSource s _).mono ?_; rintro e w1 ⟨rfl, rfl⟩) | (go_at_call 48; refine cR.mono ?_; rintro e w2 ⟨rfl, hc, hx2, hr2⟩))
  go_ret
  exact ⟨w.heap.size + 1, w.heap.size, rfl, hb2.trans (hc.below (fun k hk => by simp at hk; omega) hb2.size), by omega, by omega, by omega, hx2, hr2⟩

/-- The lexer L has read k runes of s. -/
def St (B L : Nat) (s : ByteArray) (tok : Value) (sb sr k : Nat) (w0 w : World) : Prop :=
  ∃ eof, Below B w0 w ∧ Anch B w ∧ B ≤ L ∧ LX 64 w L ⟨rootV, s, tok, .pointer none, sb, sr, (pos s k).1, (pos s k).2, eof, false⟩
def RetRune (e : Ending) : Prop := ∃ r : Int, e = .returned (.int .i32 r)

theorem next_St (B L : Nat) (s : ByteArray) (tok : Value) (sb sr k : Nat) (w0 w : World) (h : St B L s tok sb sr k w0 w) (hs : s.size ≤ 1073741824) :
    Calls Tryf.prog 43 #[.pointer (some ⟨L, 0, none⟩)] w fun e w' => RetRune e ∧ St B L s tok sb sr (k + 1) w0 w' := by
  obtain ⟨eof, hb, ha, hL, hx⟩ := h
  have hp := pos_le s k
  by_cases hlt : (pos s k).1 < s.size
  · refine (next_yes B L _ w hx ha hlt hs (by simp only; omega)).mono ?_
    rintro e w' ⟨rfl, hc, hx2⟩
    refine ⟨⟨_, rfl⟩, eof, hb.trans (hc.below (fun k hk => by simp at hk; omega) ha.le), ha.ch1 hc hL, hL, ?_⟩
    rw [pos_step s k hlt]
    exact hx2
  · refine (next_end B L _ w hx ha (by simp only; omega)).mono ?_
    rintro e w' ⟨rfl, hc, hx2⟩
    refine ⟨⟨_, rfl⟩, true, hb.trans (hc.below (fun k hk => by simp at hk; omega) ha.le), ha.ch1 hc hL, hL, ?_⟩
    rw [pos_end s k hlt]
    exact hx2
theorem zznext_St (B L : Nat) (s : ByteArray) (tok : Value) (sb sr k : Nat) (w0 w : World) (h : St B L s tok sb sr k w0 w) (hs : s.size ≤ 1073741824) :
    Calls Tryf.prog 21 #[.pointer (some ⟨L, 0, none⟩)] w fun e w' => RetRune e ∧ St B L s tok sb sr (k + 1) w0 w' := by
  have c := next_St B L s tok sb sr k w0 w h hs
  go_enter Tryf.func21, Tryf.ntmps21
  go_wp2_with (go_at_call 43; refine c.mono ?_; rintro e w1 ⟨⟨r, rfl⟩, h1⟩)
  go_ret
  exact ⟨⟨r, rfl⟩, h1⟩

theorem St.lift {B0 B L : Nat} {s : ByteArray} {tok : Value} {sb sr k : Nat} {w00 w0 w : World} (h : St B0 L s tok sb sr k w0 w) (hb : Below B w00 w0) (hB : B ≤ B0) (ha : Anch B w0) : St B L s tok sb sr k w00 w := by
  obtain ⟨eof, h1, h2, h3, h4⟩ := h
  have hbb : Below B w0 w := h1.mono hB
  obtain ⟨v, t0, e0, b0⟩ := ha
  exact ⟨eof, hb.trans hbb, ⟨v, t0, e0, b0.trans hbb⟩, Nat.le_trans hB h3, h4⟩
/-- Behind what makes new blocks alone. -/
theorem St.keep {B L : Nat} {s : ByteArray} {tok : Value} {sb sr k : Nat} {w0 w w' : World} (h : St B L s tok sb sr k w0 w) (hb : Below w.heap.size w w') : St B L s tok sb sr k w0 w' := by
  obtain ⟨eof, h1, h2, h3, h4⟩ := h
  exact ⟨eof, h1.trans (hb.mono h2.le), h2.below hb, h3, h4.below hb⟩

/-- zzAt: a fresh lexer that has read k runes. -/
def AtPost (B : Nat) (s : ByteArray) (k : Nat) (w00 w : World) (e : Ending) (w' : World) : Prop :=
  ∃ L tok, e = .returned (.pointer (some ⟨L, 0, none⟩)) ∧ w.heap.size ≤ L ∧ Below w.heap.size w w' ∧ St B L s tok 0 0 k w00 w'

theorem fresh_St {s : ByteArray} {w : World} {L R : Nat} {w' : World} (a : Anch w.heap.size w) (hb : Below w.heap.size w w') (hL : w.heap.size ≤ L) (hx : LX 64 w' L ⟨rootV, s, .pointer (some ⟨R, 0, none⟩), .pointer none, 0, 0, 0, 0, false, false⟩) :
    St w.heap.size L s (.pointer (some ⟨R, 0, none⟩)) 0 0 0 w w' := ⟨false, hb, a.below hb, hL, hx⟩

set_option maxHeartbeats 1000000 in
theorem zzAt_any (B : Nat) (s : ByteArray) (k : Nat) (w00 w : World) (a : Anch B w) (h00 : Below B w00 w) (hs : s.size ≤ 1073741824) (hk : k ≤ 4294967296) :
    Calls Tryf.prog 18 #[.string s, .int .i64 (k : Int)] w (AtPost B s k w00 w) := by
  have cF := fresh75 s w
  have fin : ∀ L tok w', w.heap.size ≤ L → St w.heap.size L s tok 0 0 k w w' → AtPost B s k w00 w (.returned (.pointer (some ⟨L, 0, none⟩))) w' := fun L tok w' hL h => ⟨L, tok, rfl, hL, h.choose_spec.1, h.lift h00 a.le a⟩
  have HA : Hid (Anch w.heap.size w) := Anch.start a.tabs
  clear a h00
  go_enter Tryf.func18, Tryf.ntmps18
  go_wp2_with (go_at_call 40; refine cF.mono ?_; rintro e w1 ⟨L, R, rfl, hb, hL, hR, hne, hx, hr⟩)
  clear cF
  have h0 := fresh_St HA.out hb hL hx
  clear hx hr hne hb hR HA
  generalize Value.pointer (some ⟨R, 0, none⟩) = tok at h0
  have fin2 := fin L tok
  clear fin
  go_loopw [6] (fun i wr => ∃ n : Nat, n ≤ k ∧ i = .int .i64 (n : Int) ∧ St w.heap.size L s tok 0 0 n w wr) (fun i _ => k - (intOf i).toNat)
  case atStart => exact ⟨0, Nat.zero_le _, rfl, h0⟩
  case round =>
    obtain ⟨n, hn, rfl, hst⟩ := hrel
    have cn := zznext_St _ L s _ 0 0 n w _ hst hs
    by_cases hlt : n < k
    · go_wp2_with (go_at_call 21; refine cn.mono ?_; rintro e w2 ⟨⟨r, rfl⟩, h2⟩)
      go_roundw
      case rel => exact ⟨n + 1, by omega, by go_num, h2⟩
      case measure => simp [intOf]; omega
    · obtain rfl : n = k := by omega
      clear cn
      have hF := fin2 _ hL hst
      clear fin2
      go_wp2
      go_ret
      exact hF

end Go.Proofs.YtdlkdojgbiahgaaFmt.Lx
