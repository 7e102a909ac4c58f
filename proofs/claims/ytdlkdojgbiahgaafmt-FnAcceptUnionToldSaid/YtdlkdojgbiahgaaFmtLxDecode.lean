/-
  Contracts of the law's own decoder (zzCont; one and two bytes): it gives what the model's decoder gives. Condition: none on the bytes.
-/
import Derived.Test.YtdlkdojgbiahgaaFmtLxBase
namespace Go.Proofs.YtdlkdojgbiahgaaFmt.Lx
open Go.RowKit Go.Lib

/-- A continuation byte. -/
def contB (x : Nat) : Bool := decide (128 ≤ x) && decide (x ≤ 191)
theorem contB_iff {x : Nat} : contB x = true ↔ x / 64 = 2 := by unfold contB; simp; omega
theorem contB_no {x : Nat} : contB x = false ↔ ¬ x / 64 = 2 := by rw [← contB_iff]; simp
theorem zzCont_any (x : Nat) (w : World) : Calls Tryf.prog 46 #[.int .u8 (x : Int)] w fun e w' => e = .returned (.bool (contB x)) ∧ w = w' := by
  by_cases h : 128 ≤ (x : Int)
  · by_cases k : (x : Int) ≤ 191
    · have e : contB x = true := by unfold contB; simp; omega
      rw [e]
      go_enter Tryf.func46, Tryf.ntmps46
      go_wp2
      go_ret
      exact ⟨rfl, rfl⟩
    · have e : contB x = false := by unfold contB; simp; omega
      rw [e]
      go_enter Tryf.func46, Tryf.ntmps46
      go_wp2
      go_ret
      exact ⟨rfl, rfl⟩
  · have e : contB x = false := by unfold contB; simp; omega
    rw [e]
    go_enter Tryf.func46, Tryf.ntmps46
    go_wp2
    go_ret
    exact ⟨rfl, rfl⟩

theorem zzCont_true (x : Nat) (w : World) (h : contB x = true) : Calls Tryf.prog 46 #[.int .u8 (x : Int)] w fun e w' => e = .returned (.bool true) ∧ w = w' := by
  have c := zzCont_any x w
  rw [h] at c
  exact c
theorem zzCont_false (x : Nat) (w : World) (h : contB x = false) : Calls Tryf.prog 46 #[.int .u8 (x : Int)] w fun e w' => e = .returned (.bool false) ∧ w = w' := by
  have c := zzCont_any x w
  rw [h] at c
  exact c

/-- What zzDecode hands back, r and its width k. -/
def DecRet (r : Int) (k : Int) (w : World) (e : Ending) (w' : World) : Prop := e = .returned (.tuple #[.int .i32 r, .int .i64 k]) ∧ Below w.heap.size w w'

set_option maxRecDepth 100000 in
set_option maxHeartbeats 1000000 in
theorem dec_one (s : ByteArray) (i : Nat) (w : World) (hi : i < s.size) (hs : s.size ≤ 1073741824) (x0 : UInt8) (e0 : s[i]'hi = x0) (h1 : x0.toNat < 128) :
    Calls Tryf.prog 30 #[.string s, .int .i64 (i : Int)] w (DecRet ((x0.toNat : Int)) 1 w) := by
  have _hs := hs
  have _h1 := h1
  have _e0 := e0
  clear _hs _h1 _e0
  have hz : (i : Int) < (s.size : Int) := by omega
  have zh10 : (x0.toNat : Int) < 128 := by omega
  have hl := x0.toNat_lt
  go_enter Tryf.func30, Tryf.ntmps30
  go_wp2
  go_ret2
  exact ⟨rfl, Below.refl _ _⟩
set_option maxRecDepth 100000 in
set_option maxHeartbeats 1000000 in
theorem dec_low (s : ByteArray) (i : Nat) (w : World) (hi : i < s.size) (hs : s.size ≤ 1073741824) (x0 : UInt8) (e0 : s[i]'hi = x0) (h1 : ¬ x0.toNat < 128) (h2 : x0.toNat < 194) :
    Calls Tryf.prog 30 #[.string s, .int .i64 (i : Int)] w (DecRet (65533) 1 w) := by
  have _hs := hs
  have _h1 := h1
  have _h2 := h2
  have _e0 := e0
  clear _hs _h1 _h2 _e0
  have hz : (i : Int) < (s.size : Int) := by omega
  have zh10 : ¬ (x0.toNat : Int) < 128 := by omega
  have zh20 : (x0.toNat : Int) < 194 := by omega
  have hl := x0.toNat_lt
  go_enter Tryf.func30, Tryf.ntmps30
  go_wp2
  go_ret2
  exact ⟨rfl, Below.refl _ _⟩
set_option maxRecDepth 100000 in
set_option maxHeartbeats 1000000 in
theorem dec_two (s : ByteArray) (i : Nat) (w : World) (hi : i < s.size) (hs : s.size ≤ 1073741824) (x0 : UInt8) (e0 : s[i]'hi = x0) (x1 : UInt8) (hn1 : i + 1 < s.size) (e1 : s[i + 1]'hn1 = x1) (h1 : ¬ x0.toNat < 194) (h2 : x0.toNat < 224) (cc1 : contB x1.toNat = true) :
    Calls Tryf.prog 30 #[.string s, .int .i64 (i : Int)] w (DecRet ((x0.toNat : Int) % 32 * 64 + (x1.toNat : Int) % 64) 2 w) := by
  have _hs := hs
  have _h1 := h1
  have _h2 := h2
  have _e0 := e0
  have _e1 := e1
  clear _hs _h1 _h2 _e0 _e1
  have hz : (i : Int) < (s.size : Int) := by omega
  have hz1 : (i : Int) + 1 < (s.size : Int) := by omega
  have zh10 : ¬ (x0.toNat : Int) < 194 := by omega
  have zh11 : ¬ (x0.toNat : Int) < 128 := by omega
  have zh20 : (x0.toNat : Int) < 224 := by omega
  have hl := x0.toNat_lt
  have hl1 := x1.toNat_lt
  have _cc1 := cc1
  clear _cc1
  go_enter Tryf.func30, Tryf.ntmps30
  go_wp2_with (first | (go_at_call 46; refine (zzCont_true _ _ (by assumption)).mono ?_; rintro e w1 ⟨rfl, rfl⟩))
  go_ret2
  exact ⟨rfl, Below.refl _ _⟩
set_option maxRecDepth 100000 in
set_option maxHeartbeats 1000000 in
theorem dec_two_no (s : ByteArray) (i : Nat) (w : World) (hi : i < s.size) (hs : s.size ≤ 1073741824) (x0 : UInt8) (e0 : s[i]'hi = x0) (x1 : UInt8) (hn1 : i + 1 < s.size) (e1 : s[i + 1]'hn1 = x1) (h1 : ¬ x0.toNat < 194) (h2 : x0.toNat < 224) (cc1 : contB x1.toNat = false) :
    Calls Tryf.prog 30 #[.string s, .int .i64 (i : Int)] w (DecRet (65533) 1 w) := by
  have _hs := hs
  have _h1 := h1
  have _h2 := h2
  have _e0 := e0
  have _e1 := e1
  clear _hs _h1 _h2 _e0 _e1
  have hz : (i : Int) < (s.size : Int) := by omega
  have hz1 : (i : Int) + 1 < (s.size : Int) := by omega
  have zh10 : ¬ (x0.toNat : Int) < 194 := by omega
  have zh11 : ¬ (x0.toNat : Int) < 128 := by omega
  have zh20 : (x0.toNat : Int) < 224 := by omega
  have hl := x0.toNat_lt
  have hl1 := x1.toNat_lt
  have _cc1 := cc1
  clear _cc1
  go_enter Tryf.func30, Tryf.ntmps30
  go_wp2_with (first | (go_at_call 46; refine (zzCont_false _ _ (by assumption)).mono ?_; rintro e w1 ⟨rfl, rfl⟩))
  go_ret2
  exact ⟨rfl, Below.refl _ _⟩
set_option maxRecDepth 100000 in
set_option maxHeartbeats 1000000 in
theorem dec_two_end (s : ByteArray) (i : Nat) (w : World) (hi : i < s.size) (hs : s.size ≤ 1073741824) (x0 : UInt8) (e0 : s[i]'hi = x0) (h1 : ¬ x0.toNat < 194) (h2 : x0.toNat < 224) (h3 : ¬ i + 1 < s.size) :
    Calls Tryf.prog 30 #[.string s, .int .i64 (i : Int)] w (DecRet (65533) 1 w) := by
  have _hs := hs
  have _h1 := h1
  have _h2 := h2
  have _h3 := h3
  have _e0 := e0
  clear _hs _h1 _h2 _h3 _e0
  have hz : (i : Int) < (s.size : Int) := by omega
  have zh10 : ¬ (x0.toNat : Int) < 194 := by omega
  have zh11 : ¬ (x0.toNat : Int) < 128 := by omega
  have zh20 : (x0.toNat : Int) < 224 := by omega
  have zh30 : ¬ (i : Int) + 1 < (s.size : Int) := by omega
  have hl := x0.toNat_lt
  go_enter Tryf.func30, Tryf.ntmps30
  go_wp2
  go_ret2
  exact ⟨rfl, Below.refl _ _⟩
set_option maxRecDepth 100000 in
set_option maxHeartbeats 1000000 in
theorem dec_high (s : ByteArray) (i : Nat) (w : World) (hi : i < s.size) (hs : s.size ≤ 1073741824) (x0 : UInt8) (e0 : s[i]'hi = x0) (h1 : ¬ x0.toNat < 245) :
    Calls Tryf.prog 30 #[.string s, .int .i64 (i : Int)] w (DecRet (65533) 1 w) := by
  have _hs := hs
  have _h1 := h1
  have _e0 := e0
  clear _hs _h1 _e0
  have hz : (i : Int) < (s.size : Int) := by omega
  have zh10 : ¬ (x0.toNat : Int) < 245 := by omega
  have zh11 : ¬ (x0.toNat : Int) < 240 := by omega
  have zh12 : ¬ (x0.toNat : Int) < 224 := by omega
  have zh13 : ¬ (x0.toNat : Int) < 194 := by omega
  have zh14 : ¬ (x0.toNat : Int) < 128 := by omega
  have hl := x0.toNat_lt
  go_enter Tryf.func30, Tryf.ntmps30
  go_wp2
  go_ret2
  exact ⟨rfl, Below.refl _ _⟩

end Go.Proofs.YtdlkdojgbiahgaaFmt.Lx
