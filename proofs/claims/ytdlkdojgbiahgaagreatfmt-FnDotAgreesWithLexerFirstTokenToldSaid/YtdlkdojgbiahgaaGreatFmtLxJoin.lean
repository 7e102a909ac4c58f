/-
  Plain facts: a text joined by a NUL byte holds just the runes of both parts and U+0000; the front of a text has the same bytes. No program in sight.
-/
import Derived.Test.YtdlkdojgbiahgaaGreatFmtLxPlain
namespace Go.Proofs.YtdlkdojgbiahgaaGreatFmt.Lx
open Go Go.Lib

theorem bt_getD (s : ByteArray) (p : Nat) : bt s p = (s.data[p]?.getD 0).toNat := by
  rcases Nat.lt_or_ge p s.size with h | h
  · rw [bt_get s p h]
    have h' : p < s.data.size := h
    rw [Array.getElem?_eq_getElem h']; rfl
  · rw [bt_out s p h]
    have h' : s.data.size ≤ p := h
    rw [Array.getElem?_eq_none h']; rfl
theorem bt_left (a b : ByteArray) (p : Nat) (h : p < a.size) : bt (a ++ b) p = bt a p := by
  rw [bt_getD, bt_getD, ByteArray.data_append, Array.getElem?_append_left (by exact h)]
theorem bt_right (a b : ByteArray) (p : Nat) : bt (a ++ b) (a.size + p) = bt b p := by
  rw [bt_getD, bt_getD, ByteArray.data_append, Array.getElem?_append_right (by exact Nat.le_add_right _ _)]
  congr 3
  exact Nat.add_sub_cancel_left _ _
theorem size_app (a b : ByteArray) : (a ++ b).size = a.size + b.size := ByteArray.size_append

/-- Behind a front the same runes. -/
theorem dec_shift (a b : ByteArray) (p : Nat) : Utf8.decode (a ++ b) (a.size + p) = Utf8.decode b p := by
  rw [dec_eq, dec_eq, bt_right, show a.size + p + 1 = a.size + (p + 1) from rfl, show a.size + p + 2 = a.size + (p + 2) from rfl, show a.size + p + 3 = a.size + (p + 3) from rfl, bt_right, bt_right, bt_right, size_app]
  congr 1
  omega
theorem has_shift (a b : ByteArray) (r : Nat) (d : Nat) : ∀ p, b.size - p = d → has (a ++ b) r (a.size + p) = has b r p := by
  induction d using Nat.strongRecOn with
  | _ d ih =>
    intro p hd
    by_cases h : p < b.size
    · have hw := dw_bounds b p h
      have e : Utf8.decode (a ++ b) (a.size + p) = Utf8.decode b p := dec_shift a b p
      have e1 : dr (a ++ b) (a.size + p) = dr b p := congrArg Prod.fst e
      have e2 : dw (a ++ b) (a.size + p) = dw b p := congrArg Prod.snd e
      rw [has_step _ r _ (by rw [size_app]; omega), has_step b r p h, e1, e2, Nat.add_assoc, ih (b.size - (p + dw b p)) (by omega) _ rfl]
    · rw [has_end _ r _ (by rw [size_app]; omega), has_end b r p h]

/-- The joint: one NUL. -/
def nul : ByteArray := ⟨#[0]⟩
theorem bt_nul : bt nul 0 = 0 := rfl
theorem dec_front (a b : ByteArray) (p : Nat) (h : p < a.size) (hb : bt b 0 / 64 ≠ 2) : Utf8.decode (a ++ b) p = Utf8.decode a p := by
  have hs := size_app a b
  have g : ∀ k, p + k < a.size → bt (a ++ b) (p + k) = bt a (p + k) := fun k hk => bt_left a b _ hk
  have z : ∀ k, p + k = a.size → bt (a ++ b) (p + k) / 64 ≠ 2 := fun k hk => by rw [hk, ← Nat.add_zero a.size, bt_right]; exact hb
  have step : ∀ k, p + k ≤ a.size → ((k < (a ++ b).size - p ∧ bt (a ++ b) (p + k) / 64 = 2) ↔ (k < a.size - p ∧ bt a (p + k) / 64 = 2)) := by
    intro k hk
    rcases Nat.lt_or_eq_of_le hk with h1 | h1
    · rw [g k h1]
      exact ⟨fun x => ⟨by omega, x.2⟩, fun x => ⟨by omega, x.2⟩⟩
    · exact ⟨fun x => absurd x.2 (z k h1), fun x => absurd x.1 (by omega)⟩
  have eqk : ∀ k, p + k ≤ a.size → bt (a ++ b) (p + k) / 64 = 2 → bt (a ++ b) (p + k) = bt a (p + k) := by
    intro k hk x
    rcases Nat.lt_or_eq_of_le hk with h1 | h1
    · exact g k h1
    · exact absurd x (z k h1)
  refine dec_congr _ _ p p (g 0 h) (step 1 (by omega)) (fun x _ => eqk 1 (by omega) x) (fun c1 => ?_) (fun c1 x _ => ?_) (fun c1 c2 => ?_) (fun c1 c2 x _ => ?_)
  · have := (step 1 (by omega)).1 c1
    exact step 2 (by omega)
  · have := (step 1 (by omega)).1 c1
    exact eqk 2 (by omega) x
  · have k1 := (step 1 (by omega)).1 c1
    have k2 := (step 2 (by omega)).1 c2
    exact step 3 (by omega)
  · have k1 := (step 1 (by omega)).1 c1
    have k2 := (step 2 (by omega)).1 c2
    exact eqk 3 (by omega) x
theorem has_front (a b : ByteArray) (r : Nat) (hb : bt b 0 / 64 ≠ 2) (d : Nat) : ∀ p, p ≤ a.size → a.size - p = d → has (a ++ b) r p = (has a r p || has b r 0) := by
  induction d using Nat.strongRecOn with
  | _ d ih =>
    intro p hp hd
    by_cases h : p < a.size
    · have hw := dw_bounds a p h
      have e := dec_front a b p h hb
      have e1 : dr (a ++ b) p = dr a p := congrArg Prod.fst e
      have e2 : dw (a ++ b) p = dw a p := congrArg Prod.snd e
      rw [has_step _ r _ (by rw [size_app]; omega), has_step a r p h, e1, e2, ih (a.size - (p + dw a p)) (by omega) _ hw.2.1 rfl, Bool.or_assoc]
    · have hpe : p = a.size + 0 := by omega
      rw [hpe, has_shift a b r _ 0 rfl, has_end a r _ (by omega), Bool.false_or]
/-- The joined set. -/
theorem has_join (v1 v2 : ByteArray) (r : Nat) : has (v1 ++ nul ++ v2) r 0 = (has v1 r 0 || has v2 r 0 || r == 0) := by
  rw [show v1 ++ nul ++ v2 = v1 ++ (nul ++ v2) from ByteArray.append_assoc]
  rw [has_front v1 (nul ++ v2) r (by rw [bt_left _ _ _ (by decide)]; decide) _ 0 (Nat.zero_le _) rfl]
  have hz : bt (nul ++ v2) 0 = 0 := bt_left _ _ _ (by decide)
  have hd := dec_ascii (nul ++ v2) 0 (by rw [hz]; decide)
  rw [has_step (nul ++ v2) r 0 (by rw [size_app]; exact Nat.lt_of_lt_of_le (by decide) (Nat.le_add_right _ _)), hd.1, hd.2, hz]
  rw [show 0 + 1 = nul.size + 0 from rfl, has_shift nul v2 r _ 0 rfl]
  have : (0 == r) = (r == 0) := by rw [Bool.eq_iff_iff]; simp; omega
  rw [this]
  cases has v1 r 0 <;> cases has v2 r 0 <;> cases (r == 0) <;> rfl

/-- A front of a text. -/
theorem bt_take (s : ByteArray) (e p : Nat) (h : p < e) (he : e ≤ s.size) : bt (s.extract 0 e) p = bt s p := by
  rw [bt_getD, bt_getD, ByteArray.data_extract]
  rw [Array.getElem?_extract]
  have he' : e ≤ s.data.size := he
  rw [if_pos (by omega), Nat.zero_add]
theorem size_take (s : ByteArray) (e : Nat) (he : e ≤ s.size) : (s.extract 0 e).size = e := by
  rw [ByteArray.size_extract]; omega

end Go.Proofs.YtdlkdojgbiahgaaGreatFmt.Lx
