/-
  The contract of Lex, over what Next hands back call by call. Conditions: the tables are laid; at most nine tokens.
-/
import Derived.Test.YtdlkdojgbiahgaaGreatFmtLxTok
import Derived.OwnWalk
import Derived.Maps.AppendAt
namespace Go.Proofs.YtdlkdojgbiahgaaGreatFmt.Lx
open Go.RowKit Go.Lib

theorem run_eql_iface_string {P : Program} (w : World) {t tx : TypeId} {ms : Array (String × TypeId)} (a b : ByteArray)
    (ht : P.underlying t = some (.interface ms)) (hc : (P.info? tx).map (·.comparable) = some true) (hx : P.underlying tx = some .string) :
    (binOp .eql t (.iface tx (.string a)) (.iface tx (.string b))).run P w = .ok (.bool (a == b)) w := by
  cases hi : P.info? tx with
  | none => simp [hi] at hc
  | some i =>
    have hcc : i.comparable = true := by simpa [hi] using hc
    have h : ∀ d : Nat, (Op.equalIn (d + 2) t (.iface tx (.string a)) (.iface tx (.string b))).run P w = .ok (a == b) w := fun d => by
      simp [Op.equalIn, run_underlying ht, run_underlying hx, typeInfo, hi, hcc]
    simp only [binOp]
    simp [Op.equal, Op.maxDepth, h 9998]

/-- A lexer that hands back just these tokens, and then is at its end. -/
def Serves (B L R : Nat) : List Tk → Base → World → Prop
  | [], w0, w => ∃ x b l, LQ B x w0 w L R b 0 l ∧ x.st = .nilFunc ∧ x.err = .pointer none
  | t :: ts, w0, w => ∃ x b n l, LQ B x w0 w L R b n l ∧ ∀ (w0' : Base) W, LQ B x w0' W L R b n l → NextCall L W fun e w' => e = .returned (.tuple #[t.val, .nilIface]) ∧ Serves B L R ts w0' w'
theorem Serves.lq {B L R : Nat} {ts : List Tk} {w0 : Base} {w : World} (h : Serves B L R ts w0 w) : ∃ x b n l, LQ B x w0 w L R b n l := by
  cases ts with
  | nil => obtain ⟨x, b, l, h1, _⟩ := h; exact ⟨x, b, 0, l, h1⟩
  | cons t ts => obtain ⟨x, b, n, l, h1, _⟩ := h; exact ⟨x, b, n, l, h1⟩
theorem LQ.poke {B : Nat} {x : LS} {w0 : Base} {w w' : World} {L R b n M : Nat} {l : List Tk} (h : LQ B x w0 w L R b n l) (hM : w0.kp M) (hB : B ≤ M) (hc : Ch [M] w w') : LQ B x ⟨w', w0.kp⟩ w' L R b n l := by
  have hS : ∀ k, k ∈ [M] → B ≤ k := fun k hk => by simp at hk; omega
  have q := h.kq M hM
  refine ⟨Below.refl _ _, h.anch.ch hc hS, h.bL, h.bR, h.ne, h.lx.ch hc (by simpa using Ne.symm q.2.1), h.tok, ?_, ?_⟩
  · rcases h.rq with ⟨D, a1, a2, a3, a4⟩ | ⟨a1, a2⟩
    · exact Or.inl ⟨D, a1, a2, a3, a4.ch hc (by simpa using Ne.symm q.2.2.1) (by simp; intro e; exact a3 (e ▸ hM))⟩
    · exact Or.inr ⟨hc.keep a1 (by simpa using Ne.symm q.2.2.1), a2⟩
  · intro k hk
    have p := h.kq k hk
    exact ⟨Nat.lt_of_lt_of_le p.1 (Nat.le_trans h.bel.size hc.size), p.2.1, p.2.2.1, rfl⟩
theorem Serves.poke {B L R M : Nat} {ts : List Tk} {w0 : Base} {w w' : World} (h : Serves B L R ts w0 w) (hM : w0.kp M) (hB : B ≤ M) (hc : Ch [M] w w') : Serves B L R ts ⟨w', w0.kp⟩ w' := by
  cases ts with
  | nil => obtain ⟨x, b, l, h1, h2⟩ := h; exact ⟨x, b, l, h1.poke hM hB hc, h2⟩
  | cons t ts => obtain ⟨x, b, n, l, h1, h2⟩ := h; exact ⟨x, b, n, l, h1.poke hM hB hc, h2⟩

theorem row_block {w w' : World} {B g e n c k : Nat} {xs : List Value} (h : w.ownsRow B e 4 (.slice (some ⟨g, 0, none⟩) n c) k xs) (hg : w'.heap[g]? = w.heap[g]?) : w'.ownsRow B e 4 (.slice (some ⟨g, 0, none⟩) n c) k xs := by
  refine ⟨h.1, ?_⟩
  rcases h.2 with ⟨h1, _⟩ | ⟨g', cap, cur, hv, h1, h2, h3⟩
  · cases h1
  · refine Or.inr ⟨g', cap, cur, hv, h1, ?_, h3⟩
    have : g' = g := by
      injection hv with e1 e2 e3
      injection e1 with e1
      injection e1 with e1 e4 e5
      exact e1.symm
    subst this
    rw [hg]; exact h2
theorem row_mono {w : World} {B B' g e n c k : Nat} {xs : List Value} (h : w.ownsRow B e 4 (.slice (some ⟨g, 0, none⟩) n c) k xs) (hB : B' ≤ B) : w.ownsRow B' e 4 (.slice (some ⟨g, 0, none⟩) n c) k xs := by
  refine ⟨h.1, ?_⟩
  rcases h.2 with h1 | ⟨g', cap, cur, hv, h1, h2, h3⟩
  · exact Or.inl h1
  · exact Or.inr ⟨g', cap, cur, hv, by omega, h2, h3⟩
theorem cells_of_block {w : World} {g T : Nat} {xs : List Value} (h : w.heap[g]? = some (.cells xs.toArray T (0, 0))) : ∀ j u, xs[j]? = some u → w.cell? ((⟨g, 0, none⟩ : Addr).add j) = some u := by
  intro j u hu
  have e : ((⟨g, 0, none⟩ : Addr).add j) = ⟨g, j, none⟩ := by rw [Addr.add_lit, Nat.zero_add]
  rw [e]
  exact cell_of h (by rw [List.getElem?_toArray]; exact hu)
theorem ch_of_grown {w w' : World} {M : Nat} (h : w.grownBy w' (some M)) : Ch [M] w w' :=
  ⟨h.os, h.tape, h.output, h.size, fun k hk hS => h.block k hk (fun e => hS (by injection e with e; simp [e]))⟩
theorem below_of_grown {w w' : World} (h : w.grownBy w' none) : Below w.heap.size w w' :=
  ⟨h.os, h.tape, h.output, h.size, fun k hk => h.block k hk (by simp)⟩
theorem alloc_new2 (w : World) (o1 o2 : Obj) : ((w.alloc o1).alloc o2).heap[w.heap.size + 1]? = some o2 := by
  have := alloc_new (w.alloc o1) o2
  rwa [show (w.alloc o1).heap.size = w.heap.size + 1 by simp] at this
theorem vals_one (t : Tk) : ∀ u ∈ t.vals, u.oneCell' = true := by
  intro u hu
  simp only [Tk.vals, List.mem_cons, List.not_mem_nil, or_false] at hu
  rcases hu with rfl | rfl | rfl | rfl <;> rfl

/-- What Lex hands back: a slice over these tokens. -/
def LexOut (B : Nat) (TS : List Tk) (v : Value) (w' : World) : Prop :=
  ∃ M : Nat, v = .slice (some ⟨M, 0, none⟩) TS.length 10 ∧ w'.ownsRow B 33 4 (.slice (some ⟨M, 0, none⟩) TS.length 10) TS.length (TS.flatMap Tk.vals)

set_option maxHeartbeats 8000000 in
theorem lex_any (s : ByteArray) (w : World) (hT : Tabs w) (TS : List Tk) (hlen : TS.length ≤ 9)
    (hS : ∀ (w0 : Base) (W : World) (B L R : Nat), LQ B (LS.rest s (.pointer (some ⟨R, 0, none⟩)) rootV 0 false false) w0 W L R 0 0 (List.replicate 10 Tk.none) → Serves B L R TS w0 W) :
    Calls Tryz.prog 19 #[.agg #[.string s]] w fun e w' => ∃ v, e = .returned (.tuple #[v, .nilIface]) ∧ Below w.heap.size w w' ∧ LexOut w.heap.size TS v w' := by
  obtain ⟨i, hi, hzz⟩ := Option.map_eq_some_iff.1 token_info
  simp only [Prod.mk.injEq] at hzz
  obtain ⟨hz, hs4, hby⟩ := hzz
  have HS := Lib.hid hS
  have HA : Hid (Anch w.heap.size w) := Anch.start hT
  have HB := Lib.hid hby
  clear hS hT hby
  obtain ⟨B, hB⟩ : ∃ B, w.heap.size = B := ⟨_, rfl⟩
  rw [hB] at HA ⊢
  have HBe := Lib.hid hB
  clear hB
  go_enter Tryz.func19, Tryz.ntmps19
  go_wp2_with (at_make; refine wpList_make_own _ rfl _ _ 25 rfl B 33 i Tk.none.val 4 Tryz.underlying25 hi hz hs4 .i64 .i64 10 10 rfl rfl rfl (by rw [HB.out]; decide) (by decide) (by rw [← HBe.out]; simp) ?_)
  intro w1 hown hgrow
  have hb1 : Below B w w1 := by
    have hle : B ≤ (w.alloc (.cells #[.string s] 48)).heap.size := by rw [← HBe.out]; simp
    exact ((Below.refl B w).alloc (Nat.le_of_eq HBe.out.symm) _).trans ((below_of_grown hgrow).mono hle)
  have hBw1 : B ≤ w1.heap.size := by have := hb1.size; have := HBe.out; omega
  have hX0 : ∃ T : Nat, w1.heap[B]? = some (.cells #[.string s] T (0, 0)) := by
    refine ⟨48, ?_⟩
    rw [hgrow.block B (by rw [← HBe.out]; simp) (by simp), ← HBe.out]
    exact alloc_new w _
  have hM1 := hown.lt (w.heap.size + 1) rfl
  obtain ⟨M, hM⟩ : ∃ M, w.heap.size + 1 = M := ⟨_, rfl⟩
  have hBM : B ≤ M := by have := HBe.out; omega
  rw [HBe.out] at hM
  rw [HBe.out, hM] at hown hM1 ⊢
  have cN := lexer_New w1
  have hx := new_lx w1
  have hr := new_rn w1 (.cells (LS.blank w1.heap.size).cells 60)
  have hbN := new_below w1 (.cells (ringCells (.slice none 0 0) 0 0) 70) (.cells (LS.blank w1.heap.size).cells 60)
  obtain ⟨W2, hW2⟩ : ∃ W, (w1.alloc (.cells (ringCells (.slice none 0 0) 0 0) 70)).alloc (.cells (LS.blank w1.heap.size).cells 60) = W := ⟨_, rfl⟩
  rw [hW2] at hx hr hbN cN
  clear hW2
  obtain ⟨R, hR⟩ : ∃ R, w1.heap.size = R := ⟨_, rfl⟩
  rw [hR] at hx hr hM1 cN
  have cR := lexer_reset_new (R + 1) R (LS.blank R) s W2 hx hr (by omega) rfl
  obtain ⟨L, hL⟩ : ∃ L, R + 1 = L := ⟨_, rfl⟩
  rw [hL] at cN cR
  have hBR : B < R := by omega
  have cB : W2.cell? ⟨B, 0, none⟩ = some (.string s) := by
    obtain ⟨T, hT⟩ := hX0
    exact cell_of ((hbN.block B (by omega)).trans hT) rfl
  have HR := Lib.hid hR
  have HL := Lib.hid hL
  clear hX0 hR hL hgrow
  go_wp2_with (first | (go_at_call 27; refine cN.mono ?_; rintro e w1 ⟨rfl, rfl⟩) | (go_at_call 28; refine cR.mono ?_; rintro e w3 ⟨rfl, hc, hx2, hr2⟩))
  have hMR := hM1.2
  have hRL : R < L := by have := HL.out; omega
  have hrow := row_block hown ((hc.block M (by have := hbN.size; have := HR.out; omega) (by simp; omega)).trans (hbN.block M (by have := HR.out; omega)))
  have hb3 : Below B w w3 := (hb1.trans (hbN.mono hBw1)).trans (hc.below (fun k hk => by simp at hk; omega) (Nat.le_trans hBw1 hbN.size))
  have hA3 : Anch B w3 := HA.out.below (by rw [HBe.out]; exact hb3)
  have hM3 : M < w3.heap.size := (hrow.lt M rfl).2
  have hq : LQ B (LS.rest s (.pointer (some ⟨R, 0, none⟩)) rootV 0 false false) ⟨w3, fun k => k = M⟩ w3 L R 0 0 (List.replicate 10 Tk.none) :=
    ⟨Below.refl _ _, hA3, by omega, by omega, by omega, hx2, rfl, Or.inr ⟨hr2, rfl, rfl, rfl⟩, fun k hk => by cases hk; exact ⟨hM3, by omega, by omega, rfl⟩⟩
  have hserve := HS.out _ _ _ _ _ hq
  have HI := Lib.hid (show Tryz.prog.info? 33 = some i ∧ i.size = 4 from ⟨hi, hs4⟩)
  clear hq hM3 hA3 hx2 hr2 hc hown cR cN hx hr hbN hb1 hBw1 hMR hRL hM1 HS HA cB hi hs4 hz HB HR HL hBR hM
  go_loopg [4] TS.length (fun k v wr => ∃ done ts w0, v = .slice (some ⟨M, 0, none⟩) (List.length done) 10 ∧ k = List.length ts ∧ Hid (done ++ ts = TS) ∧ wr.ownsRow B 33 4 (.slice (some ⟨M, 0, none⟩) done.length 10) done.length (done.flatMap Tk.vals) ∧ Below B w (Base.wd w0) ∧ w0.kp M ∧ Serves B L R ts w0 wr)
  case atStart => exact ⟨[], TS, ⟨w3, fun k => k = M⟩, rfl, rfl, Eq.refl _, hrow, hb3, rfl, hserve⟩
  case round =>
    clear hserve hrow hb3
    obtain ⟨done, ts, w0, rfl, hk, HTS, hrow, hb0, hkp, hsv⟩ := hrel
    have HK := Lib.hid hk
    clear hk
    cases ts with
    | cons t ts =>
      obtain ⟨x, b, n, l, hq, hn⟩ := hsv
      have cn := hn w0 _ hq
      have hMq := (hq.kq M hkp).2.2.2
      have HRow := Lib.hid hrow
      have HKp := Lib.hid hkp
      have hl9 : done.length + 1 ≤ 10 := by
        have := congrArg List.length HTS.out
        rw [List.length_append, List.length_cons] at this
        omega
      clear hn hq hrow hkp
      go_wp2_with (fail)
      refine cn.mono ?_
      rintro e w2 ⟨rfl, hs2⟩
      obtain ⟨x2, b2, n2, l2, hq2⟩ := hs2.lq
      have hM2 : w2.heap[M]? = wr.heap[M]? := (hq2.kq M HKp.out).2.2.2.trans hMq.symm
      have hrow2 := row_block HRow.out hM2
      have hbel2 := hq2.bel
      have HR2 := Lib.hid hrow2
      have HS2 := Lib.hid hs2
      have HL2 := Lib.hid hbel2
      have HL9 := Lib.hid hl9
      clear cn hMq hM2 hq2 hs2 hrow2 hbel2 HRow hl9
      unfold Tk.val
      go_wp2_with (at_builtin; refine wpList_append_fits _ rfl _ _ 25 rfl B 33 i 4 Tryz.underlying25 HI.out.1 HI.out.2 M done.length 10 _ rfl ((HR2.out.alloc _).alloc _) ⟨w2.heap.size + 1, 0, none⟩ 1 1 t.vals rfl rfl (cells_of_block (alloc_new2 w2 _ _)) (vals_one t) HL9.out ?_)
      intro w4 hrow4 hg4
      have hc4 : Ch [M] w2 w4 := (((Ch.refl [M] w2).alloc _).alloc _).trans (ch_of_grown hg4)
      have HC4 := Lib.hid hc4
      have HR4 := Lib.hid hrow4
      clear hg4 hc4 hrow4 HR2
      go_wp2
      have e1 : (done ++ [t]).length = done.length + 1 := by simp
      have e2 : (done ++ [t]).flatMap Tk.vals = done.flatMap Tk.vals ++ t.vals := by simp [List.flatMap_append]
      go_roundg ts.length
      case measure => have := HK.out; simp at this; omega
      case rel =>
        refine ⟨done ++ [t], ts, ⟨w4, w0.kp⟩, by rw [e1], rfl, ?_, ?_, ?_, HKp.out, HS2.out.poke HKp.out hBM HC4.out⟩
        · show (done ++ [t]) ++ ts = TS
          rw [List.append_assoc]; exact HTS.out
        · rw [e1, e2]; exact HR4.out
        · have hb2 := hb0.trans HL2.out
          exact hb2.trans (HC4.out.below (fun k hk => by simp at hk; omega) (by have := hb2.size; have := HBe.out; omega))
    | nil =>
      obtain ⟨x, b, l, hq, hst, herr⟩ := hsv
      have cn := next_fin B x w0 wr L R b l hq hst herr
      have hMq := (hq.kq M hkp).2.2.2
      have HRow := Lib.hid hrow
      have HKp := Lib.hid hkp
      have heq : ∀ W, (binOp .eql 44 (.iface 65 (.string ⟨#[69, 79, 70]⟩)) (.iface 65 (.string ⟨#[69, 79, 70]⟩))).run Tryz.prog W = .ok (.bool true) W := fun W => run_eql_iface_string W _ _ Tryz.underlying44 (by kernel_rfl) Tryz.underlying65
      clear hq hrow hkp hst herr
      go_wp2_with (fail)
      refine cn.mono ?_
      rintro e w2 ⟨rfl, hq2⟩
      have hM2 : w2.heap[M]? = wr.heap[M]? := (hq2.kq M HKp.out).2.2.2.trans hMq.symm
      have hrow2 := row_block HRow.out hM2
      have HR2 := Lib.hid hrow2
      have HL2 := Lib.hid hq2.bel
      clear cn hMq hM2 hq2 hrow2 HRow
      unfold Tk.val endV eofT
      go_wp2
      go_ret2
      have e3 := HTS.out
      rw [List.append_nil] at e3
      have hb2 := hb0.trans HL2.out
      refine ⟨_, rfl, ?_, M, ?_, ?_⟩
      · exact hb2.alloc (by have := hb2.size; have := HBe.out; omega) _
      · rw [← e3]; rfl
      · rw [← e3]; exact HR2.out.alloc _

set_option maxHeartbeats 2000000 in
theorem zzLex_any (s : ByteArray) (w : World) (hT : Tabs w) (TS : List Tk) (hlen : TS.length ≤ 9)
    (hS : ∀ (w0 : Base) (W : World) (B L R : Nat), LQ B (LS.rest s (.pointer (some ⟨R, 0, none⟩)) rootV 0 false false) w0 W L R 0 0 (List.replicate 10 Tk.none) → Serves B L R TS w0 W) :
    Calls Tryz.prog 8 #[.string s] w fun e w' => ∃ v, e = .returned (.tuple #[v, .bool true]) ∧ Below w.heap.size w w' ∧ LexOut w.heap.size TS v w' := by
  have hb1 : Below w.heap.size w (w.alloc (.cells #[.string s] 48)) := (Below.refl _ _).alloc (Nat.le_refl _) _
  have cl := lex_any s (w.alloc (.cells #[.string s] 48)) (hT.below hb1) TS hlen hS
  have HB := Lib.hid hb1
  clear hS hT hb1
  go_enter Tryz.func8, Tryz.ntmps8
  go_wp2_with (fail)
  refine (newSource s _).mono ?_
  rintro e w1 ⟨rfl, rfl⟩
  go_wp2_with (fail)
  refine cl.mono ?_
  rintro e w2 ⟨v, rfl, hb2, hout⟩
  have HO := Lib.hid hout
  have hfin := HB.out.trans (hb2.mono HB.out.size)
  clear cl hb2 HB hout
  go_wp2_with (fail)
  go_quiet (fail)
  go_wp2
  go_ret2
  refine ⟨v, rfl, ⟨hfin.os, hfin.tape, hfin.output, hfin.size, hfin.block⟩, ?_⟩
  obtain ⟨M, h1, h2⟩ := HO.out
  exact ⟨M, h1, row_block (row_mono h2 (by simp)) rfl⟩

end Go.Proofs.YtdlkdojgbiahgaaGreatFmt.Lx
