/-
  The contract of not behind the word not, whatever follows: the word is emitted, the ring then holds one token or two. Conditions: lexer, ring and slots lie in new blocks, the tables are laid, the text has at most 2^30 bytes.
-/
import Derived.Test.YtdlkdojgbiahgaaGreatFmtLxLast
namespace Go.Proofs.YtdlkdojgbiahgaaGreatFmt.Lx
open Go.RowKit Go.Lib

theorem run_sp (s : ByteArray) (d : Nat) : ∀ p, s.size - p = d → p < run s sp p → bt s (run s sp p - 1) < 128 := by
  induction d using Nat.strongRecOn with
  | _ d ih =>
    intro p hd hlt
    cases hy : acc s sp p with
    | false => rw [run_no hy] at hlt; omega
    | true =>
      have h1 := acc_lt hy
      rw [run_yes hy, acc_w asc_sp hy] at hlt ⊢
      by_cases h2 : p + 1 < run s sp (p + 1)
      · exact ih _ (by omega) (p + 1) rfl h2
      · have hle := (run_le' s sp (p + 1) (by omega)).1
        have e : run s sp (p + 1) - 1 = p := by omega
        rw [e]
        have hh := asc_sp _ (acc_has hy)
        rw [(dr_low s p hh).1]
        exact hh

theorem set_at_any {l : List Tk} {b : Nat} (t : Tk) (hb : b < l.length) : (l.set b t)[b]? = some t := by
  rw [List.getElem?_set_self hb]

/-- One token more, or two; the first is the word not. -/
def NotAnyPost (B : Nat) (x : LS) (w0 : Base) (L R b n : Nat) (t : Tk) (e : Ending) (w' : World) : Prop :=
  e = .returned rootV ∧ ∃ y n' l', (n' = n + 1 ∨ n' = n + 2) ∧ LQ B y w0 w' L R b n' l' ∧ l'[b + n]? = some t ∧ y.err = x.err ∧ y.st = x.st

set_option maxHeartbeats 8000000 in
theorem not_any (B : Nat) (x : LS) (w0 : Base) (w : World) (L R b n : Nat) (l : List Tk) (p : Nat) (h : LQ B (x.at p p) w0 w L R b n l) (hr : b + n + 1 < 10) (he : x.eof = false) (hsb : x.sb ≤ p) (hp : p ≤ x.s.size) (hs : x.s.size ≤ 1073741824) (hp1 : 1 ≤ p) (hpa : bt x.s (p - 1) < 128) :
    Calls Tryz.prog 38 #[.pointer (some ⟨L, 0, none⟩)] w (NotAnyPost B x w0 L R b n ⟨x.sr, p, kOp, x.s.extract x.sb p⟩) := by
  have hl10 : l.length = 10 := by
    rcases h.rq with ⟨D, a1, a2, a3, a4⟩ | ⟨_, _, _, rfl⟩
    · exact a4.ten
    · rfl
  have hP := run_le' x.s sp p hp
  have hPa : bt x.s (run x.s sp p - 1) < 128 := by
    rcases Nat.lt_or_ge p (run x.s sp p) with k | k
    · exact run_sp x.s _ p rfl k
    · rw [show run x.s sp p = p by omega]; exact hpa
  have hP1 : 1 ≤ run x.s sp p := by omega
  have ce := emit_LQ B (x.at p p) w0 w L R b n l kOp h (by omega) hsb hp hs
  have cs2 : ∀ w2, LQ B { x with sb := p, sr := p, eb := p, er := p } w0 w2 L R b (n + 1) (l.set (b + n) ⟨x.sr, p, kOp, x.s.extract x.sb p⟩) → Calls Tryz.prog 67 #[.pointer (some ⟨L, 0, none⟩)] w2 fun e w' => e = .returned (.tuple #[]) ∧ LQ B { x with sb := run x.s sp p, sr := run x.s sp p, eb := run x.s sp p, er := run x.s sp p } w0 w' L R b (n + 1) (l.set (b + n) ⟨x.sr, p, kOp, x.s.extract x.sb p⟩) := fun w2 hq => skipSpaces_LQ B { x with sb := p, sr := p } w0 w2 L R b (n + 1) (l.set (b + n) ⟨x.sr, p, kOp, x.s.extract x.sb p⟩) p hq hs hp
  obtain ⟨P, hPe⟩ : ∃ P, run x.s sp p = P := ⟨_, rfl⟩
  rw [hPe] at hP cs2 hPa hP1
  obtain ⟨t, ht⟩ : ∃ t, (⟨x.sr, p, kOp, x.s.extract x.sb p⟩ : Tk) = t := ⟨_, rfl⟩
  have ce2 : Calls Tryz.prog 34 #[.pointer (some ⟨L, 0, none⟩), .string kOp] w fun e w' => e = .returned (.tuple #[]) ∧ LQ B { x with sb := p, sr := p, eb := p, er := p } w0 w' L R b (n + 1) (l.set (b + n) t) := by rw [← ht]; exact ce
  rw [ht] at cs2 ⊢
  have HS := Lib.hid cs2
  have HI := Lib.hid (show l.length = 10 ∧ b + n + 1 < 10 from ⟨hl10, hr⟩)
  clear cs2 hPe ce ht h
  go_enter Tryz.func38, Tryz.ntmps38
  go_wp2_with (fail)
  refine ce2.mono ?_
  rintro e w1 ⟨rfl, h1⟩
  clear ce2
  go_wp2_with (fail)
  refine (HS.out _ h1).mono ?_
  rintro e w2 ⟨rfl, h2⟩
  clear h1 HS
  have d6 := h2.lx.c6
  have d7 := h2.lx.c7
  simp only at d6 d7
  go_wp2_with (fail)
  generalize hX : w2.alloc _ = X
  have hbX : Below w2.heap.size w2 X := by rw [← hX]; exact (Below.refl _ _).alloc (Nat.le_refl _) _
  obtain ⟨K, hK⟩ : ∃ K, w2.heap.size = K := ⟨_, rfl⟩
  have hblk : ∃ T : Nat, X.heap[K]? = some (.cells #[.int .i64 (P : Int), .int .i64 (P : Int)] T (0, 0)) := by rw [← hX, ← hK]; exact ⟨_, alloc_new w2 _⟩
  have hLK : K ≠ L := by have := h2.lx.lt; omega
  have hqX := h2.below hbX
  obtain ⟨y, hy⟩ : ∃ y, ({ x with sb := P, sr := P, eb := P, er := P } : LS) = y := ⟨_, rfl⟩
  rw [hy] at hqX
  have y1 : y.s = x.s := by rw [← hy]
  have y2 : y.eof = false := by rw [← hy]; exact he
  have y3 : ∀ m q, y.at m q = { x with sb := P, sr := P, eb := m, er := q } := fun m q => by rw [← hy]; rfl
  have y4 : y = y.at P P := by rw [y3]; exact hy.symm
  have hsc : Sg B L y X X P P := ⟨Ch.refl _ _, hqX.anch, by rw [← y4]; exact hqX.lx⟩
  have HX := Lib.hid hqX
  have Y3 := Lib.hid y3
  have hB := hqX.bL
  have hys : y.s.size ≤ 1073741824 := by rw [y1]; exact hs
  have hPy : bt y.s (P - 1) < 128 := by rw [y1]; exact hPa
  have hPs : P ≤ y.s.size := by rw [y1]; exact hP.2
  have HB := Lib.hid hblk
  rw [hK]
  clear hX hbX hK hblk h2 hqX y3 y4 hy d6 d7 he y1 hPa hP hsb hp hp1 hpa hr hl10 hs
  go_loopg [] (y.s.size + 1 - P) (fun k wr => ∃ m q, P ≤ m ∧ m ≤ y.s.size ∧ q ≤ m ∧ k = y.s.size + 1 - m ∧ Sg B L y X wr m q)
  case atStart => exact ⟨P, P, Nat.le_refl _, hPs, Nat.le_refl _, rfl, hsc⟩
  case round =>
    clear hsc
    obtain ⟨m, q, hm0, hm, hqm, hk, hq⟩ := hrel
    have HK := Lib.hid hk
    clear hk
    by_cases hc : m < y.s.size ∧ anU (dr y.s m : Int) = true
    · obtain ⟨hlt, ha⟩ := hc
      have cn := nextG B L y X wr m q hq hB hys hlt (by omega)
      have hdw := dw_bounds y.s m hlt
      have hdr := dr_le y.s m
      have cu := fun W2 (hT : Tabs W2) => alnum_any (dr y.s m : Int) W2 hT (by omega) (by omega)
      rw [ha] at cu
      have HC := Lib.hid cu
      have HD := Lib.hid hdw
      have HQ := Lib.hid (show P ≤ m ∧ m ≤ y.s.size ∧ q ≤ m from ⟨hm0, hm, hqm⟩)
      generalize dr y.s m = D at *
      generalize hE : dw y.s m = E at *
      clear cu ha hq y2 hm0 hm hqm hdw hdr hE hlt
      go_wp2_with (first | (go_at_call 30; refine cn.mono ?_; rintro e w1 ⟨rfl, h1⟩) | (go_at_call 36; refine (HC.out _ h1.2.1.tabs).mono ?_; rintro e w2 ⟨rfl, hb2⟩))
      have h2 := h1.below hb2
      have a1 := HD.out
      have a2 := HQ.out
      go_roundg (y.s.size + 1 - (m + E))
      case measure => have := HK.out; omega
      case rel => exact ⟨m + E, q + 1, by omega, a1.2.1, by omega, rfl, h2⟩
    · have cn := next_stopG B L P y X wr m q hq hB hys hm0 hm (by omega) (fun hlt => by
        cases hx : anU (dr y.s m : Int) with
        | false => rfl
        | true => exact absurd ⟨hlt, hx⟩ hc)
      have cu := fun (r : Int) W2 (h1 : BkG B L P y X W2) (ha : anU r = false) h2 h3 => ha ▸ alnum_any r W2 h1.tabs h2 h3
      have HC := Lib.hid cu
      have HK2 := Lib.hid fun W2 hq2 => backupG B L P y X W2 hq2 hB hys y2 hP1 hPy
      have HD := Lib.hid fun W2 m q (h1 : P ≤ m) (h2 : m ≤ y.s.size) (hq2 : Sg B L y X W2 m q) => word_any B L (y.at m q) W2 hq2.2.2 hq2.2.1 (by rw [Y3.out]; exact h1) h2 hys
      clear cu hc hq y2 HK hm0 hm hqm
      go_wp2_with (fail)
      refine cn.mono ?_
      rintro e w1 ⟨r, rfl, hr1, hr2, hr3, h1⟩
      have cu := HC.out r _ h1 hr1 hr2 hr3
      clear HC cn hr1 hr2 hr3
      go_wp2_with (fail)
      refine cu.mono ?_
      rintro e w2 ⟨rfl, hb2⟩
      have h2 := HK2.out _ (h1.below hb2)
      clear HK2 cu hb2 h1
      go_wp2_with (fail)
      refine h2.mono ?_
      rintro e w3 ⟨rfl, E, q2, hPE, hEs, hq2, h3⟩
      have cw := HD.out _ E q2 hPE hEs h3
      have e1 : (y.at E q2).sb = P := by rw [Y3.out]
      have e2 : (y.at E q2).eb = E := rfl
      rw [e1, e2] at cw
      have H3 := Lib.hid h3
      have HE := Lib.hid (show P ≤ E ∧ E ≤ y.s.size from ⟨hPE, hEs⟩)
      clear h2 h3 HD e1 e2 hPE hEs hq2
      go_wp2_with (fail)
      refine cw.mono ?_
      rintro e w4 ⟨rfl, hb4⟩
      clear cw
      have h4 := H3.out.below hb4
      clear H3 hb4
      have hq4 := HX.out.step h4.1 h4.2.2 rfl
      have hk4 : ∃ T : Nat, w4.heap[K]? = some (.cells #[.int .i64 (P : Int), .int .i64 (P : Int)] T (0, 0)) := by
        obtain ⟨T, hT⟩ := HB.out
        exact ⟨T, h4.1.keep hT (by simpa using hLK)⟩
      have c5 := emit_LQ B (y.at E q2) w0 w4 L R b (n + 1) _ kOp hq4 (by have := HI.out; omega) (by rw [Y3.out]; exact HE.out.1) HE.out.2 hys
      have HF := Lib.hid c5
      obtain ⟨V, hV⟩ : ∃ V, (y.at E q2).s.extract P E = V := ⟨_, rfl⟩
      rw [hV]
      have hT1 : (l.set (b + n) t)[b + n]? = some t := set_at_any t (by have := HI.out; omega)
      have hT2 : ∀ t2, ((l.set (b + n) t).set (b + (n + 1)) t2)[b + n]? = some t := fun t2 => by rw [List.getElem?_set_ne (by omega)]; exact hT1
      have HT1 := Lib.hid hT1
      have HT2 := Lib.hid hT2
      have hy0 : y.err = x.err ∧ y.st = x.st := by
        have h0 := Y3.out 0 0
        have e1 : (y.at 0 0).err = x.err := by rw [h0]
        have e2 : (y.at 0 0).st = x.st := by rw [h0]
        exact ⟨e1, e2⟩
      have HY := Lib.hid hy0
      clear hy0 h4 HX HB hB hys c5 hT1 hT2 hV HI HE Y3 hPy hPs
      have hcase : ((V.toList == [105, 110]) = true) ∨ ((V.toList == [105, 110]) = false ∧ (V.toList == [109, 97, 116, 99, 104, 101, 115]) = true) ∨ ((V.toList == [105, 110]) = false ∧ (V.toList == [109, 97, 116, 99, 104, 101, 115]) = false ∧ (V.toList == [99, 111, 110, 116, 97, 105, 110, 115]) = true) ∨ ((V.toList == [105, 110]) = false ∧ (V.toList == [109, 97, 116, 99, 104, 101, 115]) = false ∧ (V.toList == [99, 111, 110, 116, 97, 105, 110, 115]) = false ∧ (V.toList == [115, 116, 97, 114, 116, 115, 87, 105, 116, 104]) = true) ∨ ((V.toList == [105, 110]) = false ∧ (V.toList == [109, 97, 116, 99, 104, 101, 115]) = false ∧ (V.toList == [99, 111, 110, 116, 97, 105, 110, 115]) = false ∧ (V.toList == [115, 116, 97, 114, 116, 115, 87, 105, 116, 104]) = false ∧ (V.toList == [101, 110, 100, 115, 87, 105, 116, 104]) = true) ∨ ((V.toList == [105, 110]) = false ∧ (V.toList == [109, 97, 116, 99, 104, 101, 115]) = false ∧ (V.toList == [99, 111, 110, 116, 97, 105, 110, 115]) = false ∧ (V.toList == [115, 116, 97, 114, 116, 115, 87, 105, 116, 104]) = false ∧ (V.toList == [101, 110, 100, 115, 87, 105, 116, 104]) = false) := by
        cases q0 : (V.toList == [105, 110]) with
        | true => simp
        | false =>
          cases q1 : (V.toList == [109, 97, 116, 99, 104, 101, 115]) with
          | true => simp
          | false =>
            cases q2 : (V.toList == [99, 111, 110, 116, 97, 105, 110, 115]) with
            | true => simp
            | false =>
              cases q3 : (V.toList == [115, 116, 97, 114, 116, 115, 87, 105, 116, 104]) with
              | true => simp
              | false =>
                cases q4 : (V.toList == [101, 110, 100, 115, 87, 105, 116, 104]) with
                | true => simp
                | false =>
                  simp
      rcases hcase with f0 | ⟨f0, f1⟩ | ⟨f0, f1, f2⟩ | ⟨f0, f1, f2, f3⟩ | ⟨f0, f1, f2, f3, f4⟩ | ⟨f0, f1, f2, f3, f4⟩
      · clear hq4 hk4
        go_wp2_with (go_at_call 34; refine HF.out.mono ?_; rintro e w5 ⟨rfl, h5⟩)
        go_ret
        exact ⟨rfl, _, n + 2, _, Or.inr rfl, h5, HT2.out _, HY.out.1, HY.out.2⟩
      · clear hq4 hk4
        go_wp2_with (go_at_call 34; refine HF.out.mono ?_; rintro e w5 ⟨rfl, h5⟩)
        go_ret
        exact ⟨rfl, _, n + 2, _, Or.inr rfl, h5, HT2.out _, HY.out.1, HY.out.2⟩
      · clear hq4 hk4
        go_wp2_with (go_at_call 34; refine HF.out.mono ?_; rintro e w5 ⟨rfl, h5⟩)
        go_ret
        exact ⟨rfl, _, n + 2, _, Or.inr rfl, h5, HT2.out _, HY.out.1, HY.out.2⟩
      · clear hq4 hk4
        go_wp2_with (go_at_call 34; refine HF.out.mono ?_; rintro e w5 ⟨rfl, h5⟩)
        go_ret
        exact ⟨rfl, _, n + 2, _, Or.inr rfl, h5, HT2.out _, HY.out.1, HY.out.2⟩
      · clear hq4 hk4
        go_wp2_with (go_at_call 34; refine HF.out.mono ?_; rintro e w5 ⟨rfl, h5⟩)
        go_ret
        exact ⟨rfl, _, n + 2, _, Or.inr rfl, h5, HT2.out _, HY.out.1, HY.out.2⟩
      · obtain ⟨T, hT⟩ := hk4
        have d0 := cell_of (i := 0) hT rfl
        have d1 := cell_of (i := 1) hT rfl
        have d6 := hq4.lx.c6
        have d7 := hq4.lx.c7
        simp only [LS.at] at d6 d7
        have f6 := hq4.lx.f 6
        have f7 := hq4.lx.f 7
        have H4 := Lib.hid hq4
        clear hT hq4
        go_wp2
        go_ret
        exact ⟨rfl, _, n + 1, _, Or.inl rfl, H4.out.step (((Ch.refl [L] w4).setCell (p := ⟨L, 6, none⟩) (Or.inl (by simp)) _).setCell (p := ⟨L, 7, none⟩) (Or.inl (by simp)) _) ((H4.out.lx.s6 P).s7 P) rfl, HT1.out, HY.out.1, HY.out.2⟩

end Go.Proofs.YtdlkdojgbiahgaaGreatFmt.Lx
