/-
  The contract of the lexer's Next where some calls of its states bring a token. Conditions: lexer, ring and slots lie in new blocks, the tables are laid.
-/
import Derived.Test.YtdlkdojgbiahgaaGreatFmtLxNot
namespace Go.Proofs.YtdlkdojgbiahgaaGreatFmt.Lx
open Go.RowKit Go.Lib

/-- A value of the lexer's state: none, or a function. -/
def FV (v : Value) : Prop := v = .nilFunc ∨ ∃ g : Nat, v = .func (.func g) #[] #[]

/-- A function is not none. -/
theorem eqIn_func {P : Program} (w : World) (n : Nat) (t : TypeId) (f : Fn) (a b : Array Value) (d : TypeDesc) (h : P.underlying t = some d) (hd : (match d with | .func .. => true | _ => false) = true) : (Op.equalIn (n + 1) t (.func f a b) .nilFunc).run P w = .ok false w := by
  cases d <;> first | (cases hd; done) | simp [Op.equalIn, run_underlying h]
theorem eqIn_nilFunc {P : Program} (w : World) (n : Nat) (t : TypeId) (d : TypeDesc) (h : P.underlying t = some d) (hd : (match d with | .func .. => true | _ => false) = true) : (Op.equalIn (n + 1) t .nilFunc .nilFunc).run P w = .ok true w := by
  cases d <;> first | (cases hd; done) | simp [Op.equalIn, run_underlying h]
theorem neq_func {P : Program} (w : World) (t : TypeId) (f : Fn) (a b : Array Value) (d : TypeDesc) (h : P.underlying t = some d) (hd : (match d with | .func .. => true | _ => false) = true) : (binOp .neq t (.func f a b) .nilFunc).run P w = .ok (.bool true) w := by
  have e : (Op.equal t (.func f a b) .nilFunc).run P w = .ok false w := eqIn_func w 9999 t f a b d h hd
  simp only [binOp]
  simp [e]
theorem neq_nilFunc {P : Program} (w : World) (t : TypeId) (d : TypeDesc) (h : P.underlying t = some d) (hd : (match d with | .func .. => true | _ => false) = true) : (binOp .neq t .nilFunc .nilFunc).run P w = .ok (.bool false) w := by
  have e : (Op.equal t .nilFunc .nilFunc).run P w = .ok true w := eqIn_nilFunc w 9999 t d h hd
  simp only [binOp]
  simp [e]

/-- k calls of a state from here a token stands in the ring. -/
def Stg (Fin : LS → Nat → Nat → List Tk → Tk → Prop) (B : Nat) (w0 : Base) (L R : Nat) : Nat → World → Prop
  | 0, w => ∃ x b n l t, Fin x b n l t ∧ LQ B x w0 w L R b (n + 1) l ∧ b + 1 < 10 ∧ n < 10 ∧ l[b]? = some t ∧ x.err = .pointer none ∧ FV x.st
  | k + 1, w => ∃ x b l g, LQ B x w0 w L R b 0 l ∧ x.err = .pointer none ∧ x.st = .func (.func g) #[] #[] ∧ Enters Tryz.prog g ∧
      ∀ W, LQ B x w0 W L R b 0 l → Calls Tryz.prog g #[.pointer (some ⟨L, 0, none⟩)] W fun e w' => ∃ y b n l v, e = .returned v ∧ FV v ∧ LQ B y w0 w' L R b n l ∧ Stg Fin B w0 L R k (w'.setCell ⟨L, 0, none⟩ v)
theorem Stg.below {Fin : LS → Nat → Nat → List Tk → Tk → Prop} {B : Nat} {w0 : Base} {L R : Nat} {k : Nat} {w w' : World} (h : Stg Fin B w0 L R k w) (hb : Below w.heap.size w w') : Stg Fin B w0 L R k w' := by
  cases k with
  | zero =>
    obtain ⟨x, b, n, l, t, hf, hq, h2⟩ := h
    exact ⟨x, b, n, l, t, hf, hq.below hb, h2⟩
  | succ k =>
    obtain ⟨x, b, l, g, hq, h2⟩ := h
    exact ⟨x, b, l, g, hq.below hb, h2⟩

/-- A caller's own block stands, too. -/
def Base.plus (w0 : Base) (V : World) (K : Nat) : Base := ⟨V, fun k => w0.kp k ∨ k = K⟩
theorem LQ.rebase {B : Nat} {x : LS} {w0 : Base} {w V : World} {L R b n K : Nat} {l : List Tk} (h : LQ B x w0 w L R b n l) (hV : Below w.heap.size w V) (h1 : w.heap.size ≤ K) (h2 : K < V.heap.size) : LQ B x (w0.plus V K) V L R b n l := by
  have hv := h.below hV
  refine ⟨Below.refl _ _, hv.anch, h.bL, h.bR, h.ne, hv.lx, h.tok, ?_, ?_⟩
  · rcases h.rq with ⟨D, a1, a2, a3, a4⟩ | ⟨a1, a2⟩
    · refine Or.inl ⟨D, a1, a2, ?_, a4.below hV⟩
      rintro (k | k)
      · exact a3 k
      · have := a4.dlt; omega
    · exact Or.inr ⟨(hV.block _ a1.lt).trans a1, a2⟩
  · rintro k (hk | hk)
    · have q := h.kq k hk
      exact ⟨Nat.lt_of_lt_of_le q.1 (Nat.le_trans h.bel.size hV.size), q.2.1, q.2.2.1, rfl⟩
    · subst hk
      have hR : R < w.heap.size := by
        rcases h.rq with ⟨D, a1, a2, a3, a4⟩ | ⟨a1, a2⟩
        · exact a4.rlt
        · exact a1.lt
      have hL := h.lx.lt
      exact ⟨h2, by omega, by omega, rfl⟩
theorem LQ.finish {B : Nat} {x y : LS} {w0 : Base} {w V w4 wf : World} {L R b n b' n' K : Nat} {l l' : List Tk} (h : LQ B x w0 w L R b n l) (hV : Below w.heap.size w V) (h1 : w.heap.size ≤ K) (hq : LQ B y (w0.plus V K) w4 L R b' n' l') (hc : Ch [K] w4 wf) : LQ B y w0 wf L R b' n' l' := by
  have hBK : B ≤ K := by have := h.anch.le; omega
  have hS : ∀ k, k ∈ [K] → B ≤ k := fun k hk => by simp at hk; omega
  obtain ⟨g1, g2, g3, g4⟩ := hq.kq K (Or.inr rfl)
  refine ⟨((h.bel.trans (hV.mono h.anch.le)).trans hq.bel).trans (hc.below hS hq.anch.le), hq.anch.ch hc hS, h.bL, h.bR, h.ne, hq.lx.ch hc (by simpa using Ne.symm g2), hq.tok, ?_, ?_⟩
  · rcases hq.rq with ⟨D, a1, a2, a3, a4⟩ | ⟨a1, a2⟩
    · exact Or.inl ⟨D, a1, a2, fun hk => a3 (Or.inl hk), a4.ch hc (by simpa using Ne.symm g3) (by simpa using fun e => a3 (Or.inr e))⟩
    · exact Or.inr ⟨hc.keep a1 (by simpa using Ne.symm g3), a2⟩
  · intro k hk
    have q := h.kq k hk
    have p := hq.kq k (Or.inl hk)
    have hkw : k < w.heap.size := Nat.lt_of_lt_of_le q.1 h.bel.size
    have hk4 : k < w4.heap.size := Nat.lt_of_lt_of_le p.1 hq.bel.size
    refine ⟨q.1, q.2.1, q.2.2.1, ?_⟩
    rw [hc.block k hk4 (by simp; omega), p.2.2.2]
    exact (hV.block k hkw).trans q.2.2.2

set_option maxHeartbeats 4000000 in
/-- Next, where N calls of a state bring a token. -/
theorem next_tok (Fin : LS → Nat → Nat → List Tk → Tk → Prop) (B : Nat) (x : LS) (w00 : Base) (w : World) (L R b n : Nat) (l : List Tk) (N : Nat) (h : LQ B x w00 w L R b n l) (hN : ∀ w0 W, LQ B x w0 W L R b n l → Stg Fin B w0 L R N W) :
    Calls Tryz.prog 22 #[.pointer (some ⟨L, 0, none⟩)] w fun e w' => ∃ y b n l t, Fin y b n l t ∧ e = .returned (.tuple #[t.val, .nilIface]) ∧ LQ B y w00 w' L R (b + 1) n (l.set b Tk.none) := by
  go_enter Tryz.func22, Tryz.ntmps22
  go_wp2_with (fail)
  generalize hV : w.alloc _ = V
  have hbV : Below w.heap.size w V := by rw [← hV]; exact (Below.refl _ _).alloc (Nat.le_refl _) _
  obtain ⟨K, hK⟩ : ∃ K, w.heap.size = K := ⟨_, rfl⟩
  have hblk : ∃ T : Nat, V.heap[K]? = some (.cells #[.int .i64 0, .int .i64 0, .string ⟨#[]⟩, .string ⟨#[]⟩] T (0, 0)) := by rw [← hV, ← hK]; exact ⟨_, alloc_new w _⟩
  have hVs : K < V.heap.size := by rw [← hV, ← hK]; simp
  have hst := hN _ V (h.rebase hbV (Nat.le_of_eq hK) hVs)
  have HF := Lib.hid fun y w4 b' n' l' wf hq hc => h.finish (y := y) (w4 := w4) (b' := b') (n' := n') (l' := l') (wf := wf) hbV (Nat.le_of_eq hK) hq hc
  rw [hK]
  clear hV hN hbV hVs hK h
  go_loopg [] N (fun k wr => Stg Fin B (w00.plus V K) L R k wr)
  case atStart => exact hst
  case round =>
    clear hst
    cases gk with
    | succ k =>
      obtain ⟨y, b1, l1, g, hq, herr, hst, eg, hcall⟩ := hrel
      have c0 := hq.lx.c0
      rw [hst] at c0
      have c3 := hq.lx.c3
      rw [herr] at c3
      have c2 := hq.lx.c2
      rw [hq.tok] at c2
      have f0 := hq.lx.f 0
      have cl := len_LQ _ _ _ _ _ _ _ _ _ hq
      unfold Enters at eg
      have HQ := Lib.hid hq
      have HC := Lib.hid hcall
      clear hq hcall herr hst HF hblk
      have hneq := fun W => neq_func (P := Tryz.prog) W 55 (.func g) #[] #[] _ Tryz.underlying55 rfl
      go_wp2_with (first | (go_at_call 24; refine cl.mono ?_; rintro e w1 ⟨rfl, rfl⟩) | (go_at_fn g; refine (HC.out _ (by first | exact HQ.out | exact HQ.out.below (Below.refl _ _).drew)).mono ?_; rintro e w2 ⟨y2, b2, n2, l2, v, rfl, (rfl | ⟨g2, rfl⟩), hq2, hs2⟩ <;> (have d0 := hq2.lx.c0; have e0 := hq2.lx.f 0)))
      all_goals
        go_roundg k
        case measure => omega
        case rel => exact hs2
    | zero =>
      obtain ⟨y, b1, n1, l1, t, hf, hq, hb1, hn1, ht, herr, hst⟩ := hrel
      have c0 := hq.lx.c0
      have c3 := hq.lx.c3
      rw [herr] at c3
      have c2 := hq.lx.c2
      rw [hq.tok] at c2
      have cl := len_LQ _ _ _ _ _ _ _ _ _ hq
      have ct := take_LQ _ _ _ _ _ _ _ _ _ t hq hb1 hn1 ht
      unfold Tk.val at ct
      have hnz : (((n1 + 1 : Nat) : Int) == 0) = false := by rw [beq_eq_false_iff_ne]; omega
      have hneq := fun W g => neq_func (P := Tryz.prog) W 55 (.func g) #[] #[] _ Tryz.underlying55 rfl
      have hneq0 := fun W => neq_nilFunc (P := Tryz.prog) W 55 _ Tryz.underlying55 rfl
      have HB := Lib.hid hblk
      have HY := Lib.hid hf
      clear hq herr hb1 hn1 ht hblk hf
      rcases hst with hst | ⟨g, hst⟩
      all_goals
        rw [hst] at c0
        clear hst
        go_wp2_with (go_at_call 24; refine cl.mono ?_; rintro e w1 ⟨rfl, rfl⟩)
        refine ct.mono ?_
        rintro e w2 ⟨rfl, hq2⟩
        obtain ⟨T, hT⟩ : ∃ T : Nat, w2.heap[K]? = some (.cells #[.int .i64 0, .int .i64 0, .string ⟨#[]⟩, .string ⟨#[]⟩] T (0, 0)) := by
          obtain ⟨T, hT⟩ := HB.out
          exact ⟨T, (hq2.kq K (Or.inr rfl)).2.2.2.trans hT⟩
        clear ct cl hneq hneq0 c0 c2 c3 hnz
        have k0 := cell_of (i := 0) (v := .int .i64 0) hT rfl
        have k1 := cell_of (i := 1) (v := .int .i64 0) hT rfl
        have k2 := cell_of (i := 2) (v := .string ⟨#[]⟩) hT rfl
        have k3 := cell_of (i := 3) (v := .string ⟨#[]⟩) hT rfl
        have g0 := free_of (i := 0) hT
        have g1 := free_of (i := 1) hT
        have g2 := free_of (i := 2) hT
        have g3 := free_of (i := 3) hT
        have hend := set_of (i := 3) (set_of (i := 2) (set_of (i := 1) (set_of (i := 0) hT (.int .i64 (t.a : Int))) (.int .i64 (t.b : Int))) (.string t.kind)) (.string t.txt)
        have z0 := Lib.hid fun o => cell_of (i := 0) (v := .int .i64 (t.a : Int)) (alloc_old o hend) rfl
        have z1 := Lib.hid fun o => cell_of (i := 1) (v := .int .i64 (t.b : Int)) (alloc_old o hend) rfl
        have z2 := Lib.hid fun o => cell_of (i := 2) (v := .string t.kind) (alloc_old o hend) rfl
        have z3 := Lib.hid fun o => cell_of (i := 3) (v := .string t.txt) (alloc_old o hend) rfl
        have hsz := block_lt hT
        have HE := Lib.hid fun wf hc => HF.out _ _ _ _ _ wf hq2 hc
        clear hT hend hq2 HF HB
        go_wp2
        refine bodyPost_ret (v := .tuple #[.agg #[.int .i64 (t.a : Int), .int .i64 (t.b : Int), .string t.kind, .string t.txt], .nilIface]) (by simp [results, Tryz.results22, go_sem, z0.out, z1.out, z2.out, z3.out]) rfl ⟨y, b1, n1, l1, t, HY.out, rfl, HE.out _ ?_⟩
        exact ((((((Ch.refl [K] w2).setCell (p := ⟨K, 0, none⟩) (Or.inl (by simp)) _).setCell (p := ⟨K, 1, none⟩) (Or.inl (by simp)) _).setCell (p := ⟨K, 2, none⟩) (Or.inl (by simp)) _).setCell (p := ⟨K, 3, none⟩) (Or.inl (by simp)) _).alloc _)

def eofT : ByteArray := ⟨#[69, 79, 70]⟩
/-- The error at the end of a text. -/
def endV : Value := .iface 65 (.string eofT)

set_option maxHeartbeats 4000000 in
/-- Next, where the lexer has come to its end. -/
theorem next_fin (B : Nat) (x : LS) (w00 : Base) (w : World) (L R b : Nat) (l : List Tk) (h : LQ B x w00 w L R b 0 l) (hst : x.st = .nilFunc) (herr : x.err = .pointer none) :
    Calls Tryz.prog 22 #[.pointer (some ⟨L, 0, none⟩)] w fun e w' => e = .returned (.tuple #[Tk.none.val, endV]) ∧ LQ B x w00 w' L R b 0 l := by
  go_enter Tryz.func22, Tryz.ntmps22
  go_wp2_with (fail)
  generalize hV : w.alloc _ = V
  have hbV : Below w.heap.size w V := by rw [← hV]; exact (Below.refl _ _).alloc (Nat.le_refl _) _
  obtain ⟨K, hK⟩ : ∃ K, w.heap.size = K := ⟨_, rfl⟩
  have hblk : ∃ T : Nat, V.heap[K]? = some (.cells #[.int .i64 0, .int .i64 0, .string ⟨#[]⟩, .string ⟨#[]⟩] T (0, 0)) := by rw [← hV, ← hK]; exact ⟨_, alloc_new w _⟩
  have hVs : K < V.heap.size := by rw [← hV, ← hK]; simp
  have hq := h.rebase hbV (Nat.le_of_eq hK) hVs
  have HF := Lib.hid fun y w4 b' n' l' wf hq hc => h.finish (y := y) (w4 := w4) (b' := b') (n' := n') (l' := l') (wf := wf) hbV (Nat.le_of_eq hK) hq hc
  have HB := Lib.hid hblk
  rw [hK]
  clear hV hbV hVs hK h hblk
  go_loopg [] 0 (fun k wr => wr = V)
  case atStart => rfl
  case round =>
    subst hrel
    have c0 := hq.lx.c0
    rw [hst] at c0
    have c3 := hq.lx.c3
    rw [herr] at c3
    have c2 := hq.lx.c2
    rw [hq.tok] at c2
    have ct := none_LQ _ _ _ _ _ _ _ _ hq
    unfold Tk.val at ct
    have hneq0 := fun W => neq_nilFunc (P := Tryz.prog) W 55 _ Tryz.underlying55 rfl
    clear hq herr hst
    go_wp2_with (fail)
    refine ct.mono ?_
    rintro e w2 ⟨rfl, hq2⟩
    obtain ⟨T, hT⟩ : ∃ T : Nat, w2.heap[K]? = some (.cells #[.int .i64 0, .int .i64 0, .string ⟨#[]⟩, .string ⟨#[]⟩] T (0, 0)) := by
      obtain ⟨T, hT⟩ := HB.out
      exact ⟨T, (hq2.kq K (Or.inr rfl)).2.2.2.trans hT⟩
    clear ct hneq0 c0 c2 c3
    have k0 := cell_of (i := 0) (v := .int .i64 0) hT rfl
    have k1 := cell_of (i := 1) (v := .int .i64 0) hT rfl
    have k2 := cell_of (i := 2) (v := .string ⟨#[]⟩) hT rfl
    have k3 := cell_of (i := 3) (v := .string ⟨#[]⟩) hT rfl
    have g0 := free_of (i := 0) hT
    have g1 := free_of (i := 1) hT
    have g2 := free_of (i := 2) hT
    have g3 := free_of (i := 3) hT
    have hend := set_of (i := 3) (set_of (i := 2) (set_of (i := 1) (set_of (i := 0) hT (.int .i64 0)) (.int .i64 0)) (.string ⟨#[]⟩)) (.string ⟨#[]⟩)
    have z0 := Lib.hid fun o => cell_of (i := 0) (v := .int .i64 0) (alloc_old o hend) rfl
    have z1 := Lib.hid fun o => cell_of (i := 1) (v := .int .i64 0) (alloc_old o hend) rfl
    have z2 := Lib.hid fun o => cell_of (i := 2) (v := .string ⟨#[]⟩) (alloc_old o hend) rfl
    have z3 := Lib.hid fun o => cell_of (i := 3) (v := .string ⟨#[]⟩) (alloc_old o hend) rfl
    have hsz := block_lt hT
    have HE := Lib.hid fun wf hc => HF.out _ _ _ _ _ wf hq2 hc
    clear hT hend hq2 HF HB
    go_wp2
    refine bodyPost_ret (v := .tuple #[.agg #[.int .i64 0, .int .i64 0, .string ⟨#[]⟩, .string ⟨#[]⟩], endV]) (by simp [results, Tryz.results22, go_sem, z0.out, z1.out, z2.out, z3.out, endV, eofT]) rfl ⟨rfl, HE.out _ ?_⟩
    exact ((((((Ch.refl [K] w2).setCell (p := ⟨K, 0, none⟩) (Or.inl (by simp)) _).setCell (p := ⟨K, 1, none⟩) (Or.inl (by simp)) _).setCell (p := ⟨K, 2, none⟩) (Or.inl (by simp)) _).setCell (p := ⟨K, 3, none⟩) (Or.inl (by simp)) _).alloc _)

end Go.Proofs.YtdlkdojgbiahgaaGreatFmt.Lx
