/-
  The contract of the shim ZZNot at a source that opens with the word "not". Conditions: the tables are laid, the text has at most 2^30 bytes; what ends the next word is ASCII.
-/
import Derived.Test.YtdlkdojgbiahgaaFmtLxNot
import Derived.Test.YtdlkdojgbiahgaaFmtLxKeyword
namespace Go.Proofs.YtdlkdojgbiahgaaFmt.Lx
open Go.RowKit Go.Lib

/-- A token in a variable of its own is no slot of the ring. -/
theorem take_keep (B : Nat) (x : LS) (w0 w : World) (L R b n : Nat) (l : List Tk) (t : Tk) (h : LQ B x w0 w L R b (n + 1) l) (hb : b + 1 < 10) (hn : n < 10) (ht : l[b]? = some t) (K T : Nat) (cs : Array Value) (hK : w.heap[K]? = some (.cells cs T (0, 0))) (h4 : cs.size = 4) (hR : K ≠ R) :
    Calls Tryf.prog 39 #[.pointer (some ⟨R, 0, none⟩)] w fun e w' => e = .returned (.tuple #[t.val, .bool true]) ∧ LQ B x w0 w' L R (b + 1) n (l.set b Tk.none) ∧ w'.heap[K]? = some (.cells cs T (0, 0)) := by
  rcases h.rq with ⟨D, h1, h2, h3⟩ | ⟨_, _, h2, _⟩
  · obtain ⟨hlt, he⟩ := List.getElem?_eq_some_iff.1 ht
    refine (ring_take R D b n l w h3 hlt hb hn).mono ?_
    rintro e w' ⟨rfl, hc, hx⟩
    have hS : ∀ k, k ∈ [R, D] → B ≤ k := fun k hk => by
      simp at hk
      have := h.bR
      rcases hk with rfl | rfl <;> omega
    have hKD : K ≠ D := by
      intro e
      subst e
      have hd := h3.data
      rw [hK] at hd
      have h5 : cs = slotCells l := by injection hd with h6; injection h6
      have h6 : (slotCells l).size = 40 := by
        unfold slotCells
        rw [List.size_toArray, flat_len, h3.ten]
      rw [h5] at h4
      omega
    exact ⟨by rw [he], ⟨h.bel.trans (hc.below hS h.anch.le), h.anch.ch hc hS, h.bL, h.bR, h.ne, h.lx.ch hc (by simp; exact ⟨h.ne, Ne.symm h2⟩), h.tok, Or.inl ⟨D, h1, h2, hx⟩⟩, hc.keep hK (by simp; exact ⟨hR, hKD⟩)⟩
  · omega
theorem none_keep (B : Nat) (x : LS) (w0 w : World) (L R b : Nat) (l : List Tk) (h : LQ B x w0 w L R b 0 l) (K T : Nat) (cs : Array Value) (hK : w.heap[K]? = some (.cells cs T (0, 0))) :
    Calls Tryf.prog 39 #[.pointer (some ⟨R, 0, none⟩)] w fun e w' => e = .returned (.tuple #[Tk.none.val, .bool false]) ∧ LQ B x w0 w' L R b 0 l ∧ w'.heap[K]? = some (.cells cs T (0, 0)) := by
  have hb : Calls Tryf.prog 39 #[.pointer (some ⟨R, 0, none⟩)] w fun e w' => e = .returned (.tuple #[Tk.none.val, .bool false]) ∧ Below w.heap.size w w' := by
    rcases h.rq with ⟨D, h1, h2, h3⟩ | ⟨h1, rfl, _, rfl⟩
    · exact ring_none R D b l w h3
    · exact ring_none0 R w h1
  refine hb.mono ?_
  rintro e w' ⟨rfl, hb⟩
  exact ⟨rfl, h.below hb, (hb.block _ (block_lt hK)).trans hK⟩

/-- What ZZNot hands back. -/
def NotOut (s : ByteArray) (P Q : Nat) (w : World) (e : Ending) (w' : World) : Prop :=
  Below w.heap.size w w' ∧
  ((isNeg (s.extract P Q) = true ∧ e = .returned (.tuple #[.int .i64 2, (Tk.mk 0 3 kOp wNot).val, (Tk.mk P Q kOp (s.extract P Q)).val, .int .i64 (Q : Int), .int .i64 (Q : Int)])) ∨
   (isNeg (s.extract P Q) = false ∧ e = .returned (.tuple #[.int .i64 1, (Tk.mk 0 3 kOp wNot).val, Tk.none.val, .int .i64 (P : Int), .int .i64 (P : Int)])))

set_option maxRecDepth 100000 in
set_option maxHeartbeats 8000000 in
theorem zzNot_any (s : ByteArray) (w : World) (P Q : Nat) (hT : Tabs w) (hs : s.size ≤ 1073741824) (h3 : wrd s 0 = 3) (hW : s.extract 0 3 = wNot) (h8 : 3 < s.size → bt s 3 < 128) (hP : run s sp 3 = P) (hQ : wrd s P = Q) (hE : Q < s.size → bt s Q < 128) :
    Calls Tryf.prog 25 #[.string s] w (NotOut s P Q w) := by
  unfold NotOut
  have HA : Hid (Anch w.heap.size w) := Anch.start hT
  have hsz : 3 ≤ s.size := by
    have := wrd_le s _ 0 (Nat.zero_le _) rfl
    omega
  obtain ⟨W2, hW2⟩ : ∃ W2, s.extract P Q = W2 := ⟨_, rfl⟩
  have ci := fun (x : LS) W0 w L R l (h : LQ (World.heap W0).size (x.at 0 0) W0 w L R 0 0 l) (he : x.eof = false) (h0 : x.sb = 0) (h1 : x.s = s) => ident_LQ (World.heap W0).size x W0 w L R 0 0 l 0 h (by omega) he (by omega) (Nat.zero_le _) (by rw [h1]; exact hs) (by rw [h1, h3]; exact h8)
  have cn := fun (x : LS) W0 w L R l (h : LQ (World.heap W0).size (x.at 3 3) W0 w L R 0 0 l) (he : x.eof = false) (h0 : x.sb = 0) (h1 : x.s = s) => not_LQ (World.heap W0).size x W0 w L R 0 0 l 3 h (by omega) he (by omega) (by rw [h1]; exact hsz) (by rw [h1]; exact hs) (by rw [h1, hP, hQ]; exact hE)
  rw [hW2]
  have HI := Lib.hid ci
  have HN := Lib.hid cn
  have H3 := Lib.hid h3
  have HW := Lib.hid hW
  have HP := Lib.hid hP
  have HQ := Lib.hid hQ
  have HW2 := Lib.hid hW2
  clear hT h3 hW h8 hP hQ hE hW2 ci cn hsz
  go_enter Tryf.func25, Tryf.ntmps25
  go_wp2_with (fail)
  generalize hV : World.alloc (World.alloc _ _) _ = V
  have hbV : Below w.heap.size w V := by rw [← hV]; exact ((Below.refl _ _).alloc (Nat.le_refl _) _).alloc (by simp) _
  obtain ⟨K, hK⟩ : ∃ K, w.heap.size = K := ⟨_, rfl⟩
  have hblk : ∃ T : Nat, V.heap[K]? = some (.cells #[.int .i64 0, .int .i64 0, .string ⟨#[]⟩, .string ⟨#[]⟩] T (0, 0)) := by rw [← hV, ← hK]; exact ⟨_, alloc_old _ (alloc_new w _)⟩
  have hblj : ∃ T : Nat, V.heap[K + 1]? = some (.cells #[.int .i64 0, .int .i64 0, .string ⟨#[]⟩, .string ⟨#[]⟩] T (0, 0)) := by
    rw [← hV, ← hK]
    have := alloc_new (w.alloc (.cells #[.int .i64 0, .int .i64 0, .string ⟨#[]⟩, .string ⟨#[]⟩] 32)) (.cells #[.int .i64 0, .int .i64 0, .string ⟨#[]⟩, .string ⟨#[]⟩] 32)
    rw [show (w.alloc (.cells #[.int .i64 0, .int .i64 0, .string ⟨#[]⟩, .string ⟨#[]⟩] 32)).heap.size = w.heap.size + 1 by simp] at this
    exact ⟨_, this⟩
  have hVs : V.heap.size = K + 2 := by rw [← hV, ← hK]; simp
  have HV : Hid (Anch V.heap.size V) := Anch.start (HA.out.below hbV).tabs
  have HS := Lib.hid hVs
  have HK := Lib.hid hK
  rw [hK]
  rw [hK] at hbV
  clear hV HA hK hVs
  refine (fresh88 s _).mono ?_
  rintro e w1 ⟨L, R, rfl, hb, hL, hR, hne, hx, hr⟩
  have hq := fresh_LQ HV.out hb hL hR hne hx hr
  have hii := HI.out ⟨rootV, s, .pointer (some ⟨R, 0, none⟩), .pointer none, 0, 0, 0, 0, false, false⟩ _ _ _ _ _ hq rfl rfl rfl
  simp only [H3.out, HW.out] at hii
  clear hq hx hr hb HI
  go_wp2_with (fail)
  refine hii.mono ?_
  rintro e w2 hid
  clear hii
  rcases hid with ⟨_, rfl, h2⟩ | ⟨h1, _, _⟩
  rotate_left
  · exact absurd rfl h1
  have hnn := HN.out ⟨rootV, s, .pointer (some ⟨R, 0, none⟩), .pointer none, 0, 0, 0, 0, false, false⟩ _ _ _ _ _ h2 rfl rfl rfl
  simp only [HP.out, HQ.out, HW.out, HW2.out] at hnn
  clear h2 HN H3 HP HQ HW
  go_wp2_with (fail)
  refine hnn.mono ?_
  rintro e w3 ⟨rfl, hid⟩
  clear hnn
  have hKL : K < L ∧ K + 1 < L ∧ K < R := by have := HS.out; omega
  rcases hid with ⟨hn, h2⟩ | ⟨hn, h2⟩
  · have hq : LQ V.heap.size ⟨rootV, s, .pointer (some ⟨R, 0, none⟩), .pointer none, Q, Q, Q, Q, false, false⟩ V w3 L R 0 2 (((List.replicate 10 Tk.none).set 0 ⟨0, 3, kOp, wNot⟩).set 1 ⟨P, Q, kOp, W2⟩) := h2
    have H1 := Lib.hid hn
    clear hn h2
    have c2 := hq.lx.c2
    simp only at c2
    have cl := len_LQ _ _ _ _ _ _ _ _ _ hq
    have cn := take_LQ _ _ _ _ _ _ 0 1 _ ⟨0, 3, kOp, wNot⟩ hq (by omega) (by omega) rfl
    clear hq
    go_wp2_with (fail)
    refine cl.mono ?_
    rintro e w4 ⟨rfl, rfl⟩
    go_wp2_with (fail)
    refine cn.mono ?_
    rintro e w4 ⟨rfl, hq⟩
    clear cl cn c2
    have c2 := hq.lx.c2
    simp only at c2
    have hlt := hq.lx.lt
    have hRlt : R < w4.heap.size := by
      rcases hq.rq with ⟨D, _, _, h5⟩ | ⟨h5, _⟩
      · exact h5.rlt
      · exact h5.lt
    have HQ := Lib.hid hq
    clear hq
    unfold Tk.val
    go_wp2_with (fail)
    generalize hX1 : w4.alloc _ = X1
    obtain ⟨N1, hN1⟩ : ∃ N1, w4.heap.size = N1 := ⟨_, rfl⟩
    have hb1 : Below w4.heap.size w4 X1 := by rw [← hX1]; exact (Below.refl _ _).alloc (Nat.le_refl _) _
    have hblk1 : ∃ T : Nat, X1.heap[N1]? = some (.cells #[.int .i64 0, .int .i64 3, .string kOp, .string wNot] T (0, 0)) := by rw [← hX1, ← hN1]; exact ⟨_, alloc_new w4 _⟩
    obtain ⟨T1, hT1⟩ := hblk1
    have hq1 := HQ.out.below hb1
    have cn := take_keep _ _ _ _ _ _ 1 0 _ ⟨P, Q, kOp, W2⟩ hq1 (by omega) (by omega) rfl N1 T1 _ hT1 rfl (by omega)
    rw [hN1]
    have hL1 : L < N1 := by omega
    have hN1K : N1 ≠ K ∧ N1 ≠ K + 1 := by omega
    clear hX1 hb1 hT1 hq1 HQ hlt hRlt hN1 c2
    refine cn.mono ?_
    rintro e w5 ⟨rfl, hq, hk1⟩
    clear cn
    unfold Tk.val
    have hblk2 : ∃ T : Nat, w5.heap[K]? = some (.cells #[.int .i64 0, .int .i64 0, .string ⟨#[]⟩, .string ⟨#[]⟩] T (0, 0)) := by
      obtain ⟨T, hT⟩ := hblk
      have hlt := HS.out
      exact ⟨T, (hq.bel.block K (by omega)).trans hT⟩
    have hblj2 : ∃ T : Nat, w5.heap[K + 1]? = some (.cells #[.int .i64 0, .int .i64 0, .string ⟨#[]⟩, .string ⟨#[]⟩] T (0, 0)) := by
      obtain ⟨T, hT⟩ := hblj
      have hlt := HS.out
      exact ⟨T, (hq.bel.block (K + 1) (by omega)).trans hT⟩
    have hK5 : K + 1 < w5.heap.size := block_lt hblj2.choose_spec
    have hN5 : N1 < w5.heap.size := block_lt hk1
    go_wp2_with (fail)
    obtain ⟨N, hN⟩ : ∃ N, w5.heap.size = N := ⟨_, rfl⟩
    generalize hX : w5.alloc _ = X
    have hbX : Below w5.heap.size w5 X := by rw [← hX]; exact (Below.refl _ _).alloc (Nat.le_refl _) _
    have hqX := hq.below hbX
    obtain ⟨T, hT⟩ := hblk2
    obtain ⟨U, hU⟩ := hblj2
    have hXK : X.heap[K]? = some (.cells #[.int .i64 0, .int .i64 0, .string ⟨#[]⟩, .string ⟨#[]⟩] T (0, 0)) := by rw [← hX]; exact alloc_old _ hT
    have hXJ : X.heap[K + 1]? = some (.cells #[.int .i64 0, .int .i64 0, .string ⟨#[]⟩, .string ⟨#[]⟩] U (0, 0)) := by rw [← hX]; exact alloc_old _ hU
    have hX1 : X.heap[N1]? = some (.cells #[.int .i64 0, .int .i64 3, .string kOp, .string wNot] T1 (0, 0)) := by rw [← hX]; exact alloc_old _ hk1
    have k0 := cell_of (i := 0) (v := .int .i64 0) hXK rfl
    have k1 := cell_of (i := 1) (v := .int .i64 0) hXK rfl
    have k2 := cell_of (i := 2) (v := .string ⟨#[]⟩) hXK rfl
    have k3 := cell_of (i := 3) (v := .string ⟨#[]⟩) hXK rfl
    have j0 := cell_of (i := 0) (v := .int .i64 0) hXJ rfl
    have j1 := cell_of (i := 1) (v := .int .i64 0) hXJ rfl
    have j2 := cell_of (i := 2) (v := .string ⟨#[]⟩) hXJ rfl
    have j3 := cell_of (i := 3) (v := .string ⟨#[]⟩) hXJ rfl
    have g0 := free_of (i := 0) hXK
    have g1 := free_of (i := 1) hXK
    have g2 := free_of (i := 2) hXK
    have g3 := free_of (i := 3) hXK
    have i0 := free_of (i := 0) hXJ
    have i1 := free_of (i := 1) hXJ
    have i2 := free_of (i := 2) hXJ
    have i3 := free_of (i := 3) hXJ
    have m0 := cell_of (i := 0) (v := .int .i64 0) hX1 rfl
    have m1 := cell_of (i := 1) (v := .int .i64 3) hX1 rfl
    have m2 := cell_of (i := 2) (v := .string kOp) hX1 rfl
    have m3 := cell_of (i := 3) (v := .string wNot) hX1 rfl
    have n0 : X.cell? ⟨N, 0, none⟩ = some (.int .i64 ((P : Int))) := by rw [← hX, ← hN]; exact cell_of (alloc_new w5 _) rfl
    have n1 : X.cell? ⟨N, 1, none⟩ = some (.int .i64 ((Q : Int))) := by rw [← hX, ← hN]; exact cell_of (alloc_new w5 _) rfl
    have n2 : X.cell? ⟨N, 2, none⟩ = some (.string kOp) := by rw [← hX, ← hN]; exact cell_of (alloc_new w5 _) rfl
    have n3 : X.cell? ⟨N, 3, none⟩ = some (.string W2) := by rw [← hX, ← hN]; exact cell_of (alloc_new w5 _) rfl
    have hKJ : K ≠ K + 1 := by omega
    have hend := set_of (i := 3) (set_of (i := 2) (set_of (i := 1) (set_of (i := 0) hXK (.int .i64 0)) (.int .i64 3)) (.string kOp)) (.string wNot)
    have hendj : ((((X.setCell ⟨K, 0, none⟩ (.int .i64 0)).setCell ⟨K, 1, none⟩ (.int .i64 3)).setCell ⟨K, 2, none⟩ (.string kOp)).setCell ⟨K, 3, none⟩ (.string wNot)).heap[K + 1]? = some (.cells #[.int .i64 0, .int .i64 0, .string ⟨#[]⟩, .string ⟨#[]⟩] U (0, 0)) :=
      (set_other _ (Ne.symm hKJ)).trans ((set_other _ (Ne.symm hKJ)).trans ((set_other _ (Ne.symm hKJ)).trans ((set_other _ (Ne.symm hKJ)).trans hXJ)))
    have hend2 := set_of (i := 3) (set_of (i := 2) (set_of (i := 1) (set_of (i := 0) hendj (.int .i64 ((P : Int)))) (.int .i64 ((Q : Int)))) (.string kOp)) (.string W2)
    have hend1 := (set_other (i := 3) (.string W2) hKJ).trans ((set_other (i := 2) (.string kOp) hKJ).trans ((set_other (i := 1) (.int .i64 ((Q : Int))) hKJ).trans ((set_other (i := 0) (.int .i64 ((P : Int))) hKJ).trans hend)))
    have z0 := Lib.hid (cell_of (i := 0) (v := .int .i64 0) hend1 rfl)
    have z1 := Lib.hid (cell_of (i := 1) (v := .int .i64 3) hend1 rfl)
    have z2 := Lib.hid (cell_of (i := 2) (v := .string kOp) hend1 rfl)
    have z3 := Lib.hid (cell_of (i := 3) (v := .string wNot) hend1 rfl)
    have y0 := Lib.hid (cell_of (i := 0) (v := .int .i64 ((P : Int))) hend2 rfl)
    have y1 := Lib.hid (cell_of (i := 1) (v := .int .i64 ((Q : Int))) hend2 rfl)
    have y2 := Lib.hid (cell_of (i := 2) (v := .string kOp) hend2 rfl)
    have y3 := Lib.hid (cell_of (i := 3) (v := .string W2) hend2 rfl)
    rw [hN]
    have hNK : N ≠ K ∧ N ≠ K + 1 := by omega
    have d4 := hqX.lx.c4
    have d6 := hqX.lx.c6
    simp only at d4 d6
    have hfin : Below K w X := by
      have := HS.out
      exact hbV.trans (hqX.bel.mono (by omega))
    have HZ := Lib.hid hfin
    clear hX hbX hq hqX hblk hblj hT hU hXK hXJ hX1 hend hendj hend1 hend2 hN hfin hbV hK5 hN5 hk1
    go_region
    all_goals go_wp2
    all_goals
      refine bodyPost_ret (v := .tuple #[.int .i64 2, .agg #[.int .i64 0, .int .i64 3, .string kOp, .string wNot], .agg #[.int .i64 ((P : Int)), .int .i64 ((Q : Int)), .string kOp, .string W2], .int .i64 (Q : Int), .int .i64 (Q : Int)]) (by simp [results, Tryf.results25, go_sem, z0.out, z1.out, z2.out, z3.out, y0.out, y1.out, y2.out, y3.out]) rfl ⟨?_, Or.inl ⟨H1.out, rfl⟩⟩
      rw [HK.out]
      exact ((((((((HZ.out.setCell (p := ⟨K, 0, none⟩) (Nat.le_refl _) _).setCell (p := ⟨K, 1, none⟩) (Nat.le_refl _) _).setCell (p := ⟨K, 2, none⟩) (Nat.le_refl _) _).setCell (p := ⟨K, 3, none⟩) (Nat.le_refl _) _).setCell (p := ⟨K + 1, 0, none⟩) (Nat.le_succ _) _).setCell (p := ⟨K + 1, 1, none⟩) (Nat.le_succ _) _).setCell (p := ⟨K + 1, 2, none⟩) (Nat.le_succ _) _).setCell (p := ⟨K + 1, 3, none⟩) (Nat.le_succ _) _).drew
  · have hq : LQ V.heap.size ⟨rootV, s, .pointer (some ⟨R, 0, none⟩), .pointer none, P, P, P, P, false, false⟩ V w3 L R 0 1 ((List.replicate 10 Tk.none).set 0 ⟨0, 3, kOp, wNot⟩) := h2
    have H1 := Lib.hid hn
    clear hn h2
    have c2 := hq.lx.c2
    simp only at c2
    have cl := len_LQ _ _ _ _ _ _ _ _ _ hq
    have cn := take_LQ _ _ _ _ _ _ 0 0 _ ⟨0, 3, kOp, wNot⟩ hq (by omega) (by omega) rfl
    clear hq
    go_wp2_with (fail)
    refine cl.mono ?_
    rintro e w4 ⟨rfl, rfl⟩
    go_wp2_with (fail)
    refine cn.mono ?_
    rintro e w4 ⟨rfl, hq⟩
    clear cl cn c2
    have c2 := hq.lx.c2
    simp only at c2
    have hlt := hq.lx.lt
    have hRlt : R < w4.heap.size := by
      rcases hq.rq with ⟨D, _, _, h5⟩ | ⟨h5, _⟩
      · exact h5.rlt
      · exact h5.lt
    have HQ := Lib.hid hq
    clear hq
    unfold Tk.val
    go_wp2_with (fail)
    generalize hX1 : w4.alloc _ = X1
    obtain ⟨N1, hN1⟩ : ∃ N1, w4.heap.size = N1 := ⟨_, rfl⟩
    have hb1 : Below w4.heap.size w4 X1 := by rw [← hX1]; exact (Below.refl _ _).alloc (Nat.le_refl _) _
    have hblk1 : ∃ T : Nat, X1.heap[N1]? = some (.cells #[.int .i64 0, .int .i64 3, .string kOp, .string wNot] T (0, 0)) := by rw [← hX1, ← hN1]; exact ⟨_, alloc_new w4 _⟩
    obtain ⟨T1, hT1⟩ := hblk1
    have hq1 := HQ.out.below hb1
    have cn := none_keep _ _ _ _ _ _ _ _ hq1 N1 T1 _ hT1
    rw [hN1]
    have hL1 : L < N1 := by omega
    have hN1K : N1 ≠ K ∧ N1 ≠ K + 1 := by omega
    clear hX1 hb1 hT1 hq1 HQ hlt hRlt hN1 c2
    refine cn.mono ?_
    rintro e w5 ⟨rfl, hq, hk1⟩
    clear cn
    unfold Tk.val
    have hblk2 : ∃ T : Nat, w5.heap[K]? = some (.cells #[.int .i64 0, .int .i64 0, .string ⟨#[]⟩, .string ⟨#[]⟩] T (0, 0)) := by
      obtain ⟨T, hT⟩ := hblk
      have hlt := HS.out
      exact ⟨T, (hq.bel.block K (by omega)).trans hT⟩
    have hblj2 : ∃ T : Nat, w5.heap[K + 1]? = some (.cells #[.int .i64 0, .int .i64 0, .string ⟨#[]⟩, .string ⟨#[]⟩] T (0, 0)) := by
      obtain ⟨T, hT⟩ := hblj
      have hlt := HS.out
      exact ⟨T, (hq.bel.block (K + 1) (by omega)).trans hT⟩
    have hK5 : K + 1 < w5.heap.size := block_lt hblj2.choose_spec
    have hN5 : N1 < w5.heap.size := block_lt hk1
    go_wp2_with (fail)
    obtain ⟨N, hN⟩ : ∃ N, w5.heap.size = N := ⟨_, rfl⟩
    generalize hX : w5.alloc _ = X
    have hbX : Below w5.heap.size w5 X := by rw [← hX]; exact (Below.refl _ _).alloc (Nat.le_refl _) _
    have hqX := hq.below hbX
    obtain ⟨T, hT⟩ := hblk2
    obtain ⟨U, hU⟩ := hblj2
    have hXK : X.heap[K]? = some (.cells #[.int .i64 0, .int .i64 0, .string ⟨#[]⟩, .string ⟨#[]⟩] T (0, 0)) := by rw [← hX]; exact alloc_old _ hT
    have hXJ : X.heap[K + 1]? = some (.cells #[.int .i64 0, .int .i64 0, .string ⟨#[]⟩, .string ⟨#[]⟩] U (0, 0)) := by rw [← hX]; exact alloc_old _ hU
    have hX1 : X.heap[N1]? = some (.cells #[.int .i64 0, .int .i64 3, .string kOp, .string wNot] T1 (0, 0)) := by rw [← hX]; exact alloc_old _ hk1
    have k0 := cell_of (i := 0) (v := .int .i64 0) hXK rfl
    have k1 := cell_of (i := 1) (v := .int .i64 0) hXK rfl
    have k2 := cell_of (i := 2) (v := .string ⟨#[]⟩) hXK rfl
    have k3 := cell_of (i := 3) (v := .string ⟨#[]⟩) hXK rfl
    have j0 := cell_of (i := 0) (v := .int .i64 0) hXJ rfl
    have j1 := cell_of (i := 1) (v := .int .i64 0) hXJ rfl
    have j2 := cell_of (i := 2) (v := .string ⟨#[]⟩) hXJ rfl
    have j3 := cell_of (i := 3) (v := .string ⟨#[]⟩) hXJ rfl
    have g0 := free_of (i := 0) hXK
    have g1 := free_of (i := 1) hXK
    have g2 := free_of (i := 2) hXK
    have g3 := free_of (i := 3) hXK
    have i0 := free_of (i := 0) hXJ
    have i1 := free_of (i := 1) hXJ
    have i2 := free_of (i := 2) hXJ
    have i3 := free_of (i := 3) hXJ
    have m0 := cell_of (i := 0) (v := .int .i64 0) hX1 rfl
    have m1 := cell_of (i := 1) (v := .int .i64 3) hX1 rfl
    have m2 := cell_of (i := 2) (v := .string kOp) hX1 rfl
    have m3 := cell_of (i := 3) (v := .string wNot) hX1 rfl
    have n0 : X.cell? ⟨N, 0, none⟩ = some (.int .i64 (0)) := by rw [← hX, ← hN]; exact cell_of (alloc_new w5 _) rfl
    have n1 : X.cell? ⟨N, 1, none⟩ = some (.int .i64 (0)) := by rw [← hX, ← hN]; exact cell_of (alloc_new w5 _) rfl
    have n2 : X.cell? ⟨N, 2, none⟩ = some (.string ⟨#[]⟩) := by rw [← hX, ← hN]; exact cell_of (alloc_new w5 _) rfl
    have n3 : X.cell? ⟨N, 3, none⟩ = some (.string ⟨#[]⟩) := by rw [← hX, ← hN]; exact cell_of (alloc_new w5 _) rfl
    have hKJ : K ≠ K + 1 := by omega
    have hend := set_of (i := 3) (set_of (i := 2) (set_of (i := 1) (set_of (i := 0) hXK (.int .i64 0)) (.int .i64 3)) (.string kOp)) (.string wNot)
    have hendj : ((((X.setCell ⟨K, 0, none⟩ (.int .i64 0)).setCell ⟨K, 1, none⟩ (.int .i64 3)).setCell ⟨K, 2, none⟩ (.string kOp)).setCell ⟨K, 3, none⟩ (.string wNot)).heap[K + 1]? = some (.cells #[.int .i64 0, .int .i64 0, .string ⟨#[]⟩, .string ⟨#[]⟩] U (0, 0)) :=
      (set_other _ (Ne.symm hKJ)).trans ((set_other _ (Ne.symm hKJ)).trans ((set_other _ (Ne.symm hKJ)).trans ((set_other _ (Ne.symm hKJ)).trans hXJ)))
    have hend2 := set_of (i := 3) (set_of (i := 2) (set_of (i := 1) (set_of (i := 0) hendj (.int .i64 (0))) (.int .i64 (0))) (.string ⟨#[]⟩)) (.string ⟨#[]⟩)
    have hend1 := (set_other (i := 3) (.string ⟨#[]⟩) hKJ).trans ((set_other (i := 2) (.string ⟨#[]⟩) hKJ).trans ((set_other (i := 1) (.int .i64 (0)) hKJ).trans ((set_other (i := 0) (.int .i64 (0)) hKJ).trans hend)))
    have z0 := Lib.hid (cell_of (i := 0) (v := .int .i64 0) hend1 rfl)
    have z1 := Lib.hid (cell_of (i := 1) (v := .int .i64 3) hend1 rfl)
    have z2 := Lib.hid (cell_of (i := 2) (v := .string kOp) hend1 rfl)
    have z3 := Lib.hid (cell_of (i := 3) (v := .string wNot) hend1 rfl)
    have y0 := Lib.hid (cell_of (i := 0) (v := .int .i64 (0)) hend2 rfl)
    have y1 := Lib.hid (cell_of (i := 1) (v := .int .i64 (0)) hend2 rfl)
    have y2 := Lib.hid (cell_of (i := 2) (v := .string ⟨#[]⟩) hend2 rfl)
    have y3 := Lib.hid (cell_of (i := 3) (v := .string ⟨#[]⟩) hend2 rfl)
    rw [hN]
    have hNK : N ≠ K ∧ N ≠ K + 1 := by omega
    have d4 := hqX.lx.c4
    have d6 := hqX.lx.c6
    simp only at d4 d6
    have hfin : Below K w X := by
      have := HS.out
      exact hbV.trans (hqX.bel.mono (by omega))
    have HZ := Lib.hid hfin
    clear hX hbX hq hqX hblk hblj hT hU hXK hXJ hX1 hend hendj hend1 hend2 hN hfin hbV hK5 hN5 hk1
    go_region
    all_goals go_wp2
    all_goals
      refine bodyPost_ret (v := .tuple #[.int .i64 1, .agg #[.int .i64 0, .int .i64 3, .string kOp, .string wNot], .agg #[.int .i64 (0), .int .i64 (0), .string ⟨#[]⟩, .string ⟨#[]⟩], .int .i64 (P : Int), .int .i64 (P : Int)]) (by simp [results, Tryf.results25, go_sem, z0.out, z1.out, z2.out, z3.out, y0.out, y1.out, y2.out, y3.out]) rfl ⟨?_, Or.inr ⟨H1.out, rfl⟩⟩
      rw [HK.out]
      exact ((((((((HZ.out.setCell (p := ⟨K, 0, none⟩) (Nat.le_refl _) _).setCell (p := ⟨K, 1, none⟩) (Nat.le_refl _) _).setCell (p := ⟨K, 2, none⟩) (Nat.le_refl _) _).setCell (p := ⟨K, 3, none⟩) (Nat.le_refl _) _).setCell (p := ⟨K + 1, 0, none⟩) (Nat.le_succ _) _).setCell (p := ⟨K + 1, 1, none⟩) (Nat.le_succ _) _).setCell (p := ⟨K + 1, 2, none⟩) (Nat.le_succ _) _).setCell (p := ⟨K + 1, 3, none⟩) (Nat.le_succ _) _).drew

end Go.Proofs.YtdlkdojgbiahgaaFmt.Lx
