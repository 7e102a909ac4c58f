/-
  Contracts of the law's own decoder (four bytes): it gives what the model's decoder gives. Condition: none on the bytes.
-/
import Derived.Test.YtdlkdojgbiahgaaFmtLxDecode3
namespace Go.Proofs.YtdlkdojgbiahgaaFmt.Lx
open Go.RowKit Go.Lib

set_option maxRecDepth 100000 in
set_option maxHeartbeats 1000000 in
theorem decF0_ok (s : ByteArray) (i : Nat) (w : World) (hi : i < s.size) (hs : s.size ≤ 1073741824) (x0 : UInt8) (e0 : s[i]'hi = x0) (x1 : UInt8) (hn1 : i + 1 < s.size) (e1 : s[i + 1]'hn1 = x1) (x2 : UInt8) (hn2 : i + 2 < s.size) (e2 : s[i + 2]'hn2 = x2) (x3 : UInt8) (hn3 : i + 3 < s.size) (e3 : s[i + 3]'hn3 = x3) (h1 : ¬ x0.toNat < 240) (h2 : x0.toNat < 245) (qa : x0.toNat = 240) (qb : ¬ x0.toNat = 244) (r1 : 144 ≤ x1.toNat) (r2 : x1.toNat ≤ 191) (cc2 : contB x2.toNat = true) (cc3 : contB x3.toNat = true) :
    Calls Tryf.prog 30 #[.string s, .int .i64 (i : Int)] w (DecRet ((x1.toNat : Int) % 64 * 4096 + (x2.toNat : Int) % 64 * 64 + (x3.toNat : Int) % 64) 4 w) := by
  have _hs := hs
  have _h1 := h1
  have _h2 := h2
  have _qa := qa
  have _qb := qb
  have _r1 := r1
  have _r2 := r2
  have _e0 := e0
  have _e1 := e1
  have _e2 := e2
  have _e3 := e3
  clear _hs _h1 _h2 _qa _qb _r1 _r2 _e0 _e1 _e2 _e3
  have hz : (i : Int) < (s.size : Int) := by omega
  have hz1 : (i : Int) + 1 < (s.size : Int) := by omega
  have hz2 : (i : Int) + 2 < (s.size : Int) := by omega
  have hz3 : (i : Int) + 3 < (s.size : Int) := by omega
  have zh10 : ¬ (x0.toNat : Int) < 240 := by omega
  have zh11 : ¬ (x0.toNat : Int) < 224 := by omega
  have zh12 : ¬ (x0.toNat : Int) < 194 := by omega
  have zh13 : ¬ (x0.toNat : Int) < 128 := by omega
  have zh20 : (x0.toNat : Int) < 245 := by omega
  have zqa0 : ((x0.toNat : Int) == 240) = true := by simp; omega
  have zqb0 : ((x0.toNat : Int) == 244) = false := by simp; omega
  have zr10 : 144 ≤ (x1.toNat : Int) := by omega
  have zr20 : (x1.toNat : Int) ≤ 191 := by omega
  have hl := x0.toNat_lt
  have hl1 := x1.toNat_lt
  have hl2 := x2.toNat_lt
  have hl3 := x3.toNat_lt
  have _cc2 := cc2
  clear _cc2
  have _cc3 := cc3
  clear _cc3
  go_enter Tryf.func30, Tryf.ntmps30
  go_wp2_with (first | (go_at_call 46; refine (zzCont_true _ _ (by assumption)).mono ?_; rintro e w1 ⟨rfl, rfl⟩))
  go_quiet (fail)
  go_wp2
  go_ret2
  exact ⟨rfl, Below.drewN_refl _ _⟩
set_option maxRecDepth 100000 in
set_option maxHeartbeats 1000000 in
theorem decF0_end (s : ByteArray) (i : Nat) (w : World) (hi : i < s.size) (hs : s.size ≤ 1073741824) (x0 : UInt8) (e0 : s[i]'hi = x0) (h1 : ¬ x0.toNat < 240) (h2 : x0.toNat < 245) (qa : x0.toNat = 240) (qb : ¬ x0.toNat = 244) (h3 : ¬ i + 3 < s.size) :
    Calls Tryf.prog 30 #[.string s, .int .i64 (i : Int)] w (DecRet (65533) 1 w) := by
  have _hs := hs
  have _h1 := h1
  have _h2 := h2
  have _qa := qa
  have _qb := qb
  have _h3 := h3
  have _e0 := e0
  clear _hs _h1 _h2 _qa _qb _h3 _e0
  have hz : (i : Int) < (s.size : Int) := by omega
  have zh10 : ¬ (x0.toNat : Int) < 240 := by omega
  have zh11 : ¬ (x0.toNat : Int) < 224 := by omega
  have zh12 : ¬ (x0.toNat : Int) < 194 := by omega
  have zh13 : ¬ (x0.toNat : Int) < 128 := by omega
  have zh20 : (x0.toNat : Int) < 245 := by omega
  have zqa0 : ((x0.toNat : Int) == 240) = true := by simp; omega
  have zqb0 : ((x0.toNat : Int) == 244) = false := by simp; omega
  have zh30 : ¬ (i : Int) + 3 < (s.size : Int) := by omega
  have hl := x0.toNat_lt
  go_enter Tryf.func30, Tryf.ntmps30
  go_wp2
  go_ret2
  exact ⟨rfl, Below.refl _ _⟩
set_option maxRecDepth 100000 in
set_option maxHeartbeats 1000000 in
theorem decF0_lo (s : ByteArray) (i : Nat) (w : World) (hi : i < s.size) (hs : s.size ≤ 1073741824) (x0 : UInt8) (e0 : s[i]'hi = x0) (x1 : UInt8) (hn1 : i + 1 < s.size) (e1 : s[i + 1]'hn1 = x1) (x2 : UInt8) (hn2 : i + 2 < s.size) (e2 : s[i + 2]'hn2 = x2) (x3 : UInt8) (hn3 : i + 3 < s.size) (e3 : s[i + 3]'hn3 = x3) (h1 : ¬ x0.toNat < 240) (h2 : x0.toNat < 245) (qa : x0.toNat = 240) (qb : ¬ x0.toNat = 244) (r1 : ¬ 144 ≤ x1.toNat) :
    Calls Tryf.prog 30 #[.string s, .int .i64 (i : Int)] w (DecRet (65533) 1 w) := by
  have _hs := hs
  have _h1 := h1
  have _h2 := h2
  have _qa := qa
  have _qb := qb
  have _r1 := r1
  have _e0 := e0
  have _e1 := e1
  have _e2 := e2
  have _e3 := e3
  clear _hs _h1 _h2 _qa _qb _r1 _e0 _e1 _e2 _e3
  have hz : (i : Int) < (s.size : Int) := by omega
  have hz1 : (i : Int) + 1 < (s.size : Int) := by omega
  have hz2 : (i : Int) + 2 < (s.size : Int) := by omega
  have hz3 : (i : Int) + 3 < (s.size : Int) := by omega
  have zh10 : ¬ (x0.toNat : Int) < 240 := by omega
  have zh11 : ¬ (x0.toNat : Int) < 224 := by omega
  have zh12 : ¬ (x0.toNat : Int) < 194 := by omega
  have zh13 : ¬ (x0.toNat : Int) < 128 := by omega
  have zh20 : (x0.toNat : Int) < 245 := by omega
  have zqa0 : ((x0.toNat : Int) == 240) = true := by simp; omega
  have zqb0 : ((x0.toNat : Int) == 244) = false := by simp; omega
  have zr10 : ¬ 144 ≤ (x1.toNat : Int) := by omega
  have hl := x0.toNat_lt
  have hl1 := x1.toNat_lt
  have hl2 := x2.toNat_lt
  have hl3 := x3.toNat_lt
  go_enter Tryf.func30, Tryf.ntmps30
  go_wp2
  go_ret2
  exact ⟨rfl, Below.refl _ _⟩
set_option maxRecDepth 100000 in
set_option maxHeartbeats 1000000 in
theorem decF0_hi (s : ByteArray) (i : Nat) (w : World) (hi : i < s.size) (hs : s.size ≤ 1073741824) (x0 : UInt8) (e0 : s[i]'hi = x0) (x1 : UInt8) (hn1 : i + 1 < s.size) (e1 : s[i + 1]'hn1 = x1) (x2 : UInt8) (hn2 : i + 2 < s.size) (e2 : s[i + 2]'hn2 = x2) (x3 : UInt8) (hn3 : i + 3 < s.size) (e3 : s[i + 3]'hn3 = x3) (h1 : ¬ x0.toNat < 240) (h2 : x0.toNat < 245) (qa : x0.toNat = 240) (qb : ¬ x0.toNat = 244) (r1 : 144 ≤ x1.toNat) (r2 : ¬ x1.toNat ≤ 191) :
    Calls Tryf.prog 30 #[.string s, .int .i64 (i : Int)] w (DecRet (65533) 1 w) := by
  have _hs := hs
  have _h1 := h1
  have _h2 := h2
  have _qa := qa
  have _qb := qb
  have _r1 := r1
  have _r2 := r2
  have _e0 := e0
  have _e1 := e1
  have _e2 := e2
  have _e3 := e3
  clear _hs _h1 _h2 _qa _qb _r1 _r2 _e0 _e1 _e2 _e3
  have hz : (i : Int) < (s.size : Int) := by omega
  have hz1 : (i : Int) + 1 < (s.size : Int) := by omega
  have hz2 : (i : Int) + 2 < (s.size : Int) := by omega
  have hz3 : (i : Int) + 3 < (s.size : Int) := by omega
  have zh10 : ¬ (x0.toNat : Int) < 240 := by omega
  have zh11 : ¬ (x0.toNat : Int) < 224 := by omega
  have zh12 : ¬ (x0.toNat : Int) < 194 := by omega
  have zh13 : ¬ (x0.toNat : Int) < 128 := by omega
  have zh20 : (x0.toNat : Int) < 245 := by omega
  have zqa0 : ((x0.toNat : Int) == 240) = true := by simp; omega
  have zqb0 : ((x0.toNat : Int) == 244) = false := by simp; omega
  have zr10 : 144 ≤ (x1.toNat : Int) := by omega
  have zr20 : ¬ (x1.toNat : Int) ≤ 191 := by omega
  have hl := x0.toNat_lt
  have hl1 := x1.toNat_lt
  have hl2 := x2.toNat_lt
  have hl3 := x3.toNat_lt
  go_enter Tryf.func30, Tryf.ntmps30
  go_wp2
  go_ret2
  exact ⟨rfl, Below.refl _ _⟩
set_option maxRecDepth 100000 in
set_option maxHeartbeats 1000000 in
theorem decF0_c2 (s : ByteArray) (i : Nat) (w : World) (hi : i < s.size) (hs : s.size ≤ 1073741824) (x0 : UInt8) (e0 : s[i]'hi = x0) (x1 : UInt8) (hn1 : i + 1 < s.size) (e1 : s[i + 1]'hn1 = x1) (x2 : UInt8) (hn2 : i + 2 < s.size) (e2 : s[i + 2]'hn2 = x2) (x3 : UInt8) (hn3 : i + 3 < s.size) (e3 : s[i + 3]'hn3 = x3) (h1 : ¬ x0.toNat < 240) (h2 : x0.toNat < 245) (qa : x0.toNat = 240) (qb : ¬ x0.toNat = 244) (r1 : 144 ≤ x1.toNat) (r2 : x1.toNat ≤ 191) (cc2 : contB x2.toNat = false) :
    Calls Tryf.prog 30 #[.string s, .int .i64 (i : Int)] w (DecRet (65533) 1 w) := by
  have _hs := hs
  have _h1 := h1
  have _h2 := h2
  have _qa := qa
  have _qb := qb
  have _r1 := r1
  have _r2 := r2
  have _e0 := e0
  have _e1 := e1
  have _e2 := e2
  have _e3 := e3
  clear _hs _h1 _h2 _qa _qb _r1 _r2 _e0 _e1 _e2 _e3
  have hz : (i : Int) < (s.size : Int) := by omega
  have hz1 : (i : Int) + 1 < (s.size : Int) := by omega
  have hz2 : (i : Int) + 2 < (s.size : Int) := by omega
  have hz3 : (i : Int) + 3 < (s.size : Int) := by omega
  have zh10 : ¬ (x0.toNat : Int) < 240 := by omega
  have zh11 : ¬ (x0.toNat : Int) < 224 := by omega
  have zh12 : ¬ (x0.toNat : Int) < 194 := by omega
  have zh13 : ¬ (x0.toNat : Int) < 128 := by omega
  have zh20 : (x0.toNat : Int) < 245 := by omega
  have zqa0 : ((x0.toNat : Int) == 240) = true := by simp; omega
  have zqb0 : ((x0.toNat : Int) == 244) = false := by simp; omega
  have zr10 : 144 ≤ (x1.toNat : Int) := by omega
  have zr20 : (x1.toNat : Int) ≤ 191 := by omega
  have hl := x0.toNat_lt
  have hl1 := x1.toNat_lt
  have hl2 := x2.toNat_lt
  have hl3 := x3.toNat_lt
  have _cc2 := cc2
  clear _cc2
  go_enter Tryf.func30, Tryf.ntmps30
  go_wp2_with (first | (go_at_call 46; refine (zzCont_false _ _ (by assumption)).mono ?_; rintro e w1 ⟨rfl, rfl⟩))
  go_ret2
  exact ⟨rfl, Below.refl _ _⟩
set_option maxRecDepth 100000 in
set_option maxHeartbeats 1000000 in
theorem decF0_c3 (s : ByteArray) (i : Nat) (w : World) (hi : i < s.size) (hs : s.size ≤ 1073741824) (x0 : UInt8) (e0 : s[i]'hi = x0) (x1 : UInt8) (hn1 : i + 1 < s.size) (e1 : s[i + 1]'hn1 = x1) (x2 : UInt8) (hn2 : i + 2 < s.size) (e2 : s[i + 2]'hn2 = x2) (x3 : UInt8) (hn3 : i + 3 < s.size) (e3 : s[i + 3]'hn3 = x3) (h1 : ¬ x0.toNat < 240) (h2 : x0.toNat < 245) (qa : x0.toNat = 240) (qb : ¬ x0.toNat = 244) (r1 : 144 ≤ x1.toNat) (r2 : x1.toNat ≤ 191) (cc2 : contB x2.toNat = true) (cc3 : contB x3.toNat = false) :
    Calls Tryf.prog 30 #[.string s, .int .i64 (i : Int)] w (DecRet (65533) 1 w) := by
  have _hs := hs
  have _h1 := h1
  have _h2 := h2
  have _qa := qa
  have _qb := qb
  have _r1 := r1
  have _r2 := r2
  have _e0 := e0
  have _e1 := e1
  have _e2 := e2
  have _e3 := e3
  clear _hs _h1 _h2 _qa _qb _r1 _r2 _e0 _e1 _e2 _e3
  have hz : (i : Int) < (s.size : Int) := by omega
  have hz1 : (i : Int) + 1 < (s.size : Int) := by omega
  have hz2 : (i : Int) + 2 < (s.size : Int) := by omega
  have hz3 : (i : Int) + 3 < (s.size : Int) := by omega
  have zh10 : ¬ (x0.toNat : Int) < 240 := by omega
  have zh11 : ¬ (x0.toNat : Int) < 224 := by omega
  have zh12 : ¬ (x0.toNat : Int) < 194 := by omega
  have zh13 : ¬ (x0.toNat : Int) < 128 := by omega
  have zh20 : (x0.toNat : Int) < 245 := by omega
  have zqa0 : ((x0.toNat : Int) == 240) = true := by simp; omega
  have zqb0 : ((x0.toNat : Int) == 244) = false := by simp; omega
  have zr10 : 144 ≤ (x1.toNat : Int) := by omega
  have zr20 : (x1.toNat : Int) ≤ 191 := by omega
  have hl := x0.toNat_lt
  have hl1 := x1.toNat_lt
  have hl2 := x2.toNat_lt
  have hl3 := x3.toNat_lt
  have _cc2 := cc2
  clear _cc2
  have _cc3 := cc3
  clear _cc3
  go_enter Tryf.func30, Tryf.ntmps30
  go_wp2_with (first | (go_at_call 46; refine (zzCont_true _ _ (by assumption)).mono ?_; rintro e w1 ⟨rfl, rfl⟩) | (go_at_call 46; refine (zzCont_false _ _ (by assumption)).mono ?_; rintro e w1 ⟨rfl, rfl⟩))
  go_ret2
  exact ⟨rfl, Below.refl _ _⟩
set_option maxRecDepth 100000 in
set_option maxHeartbeats 1000000 in
theorem decF4_ok (s : ByteArray) (i : Nat) (w : World) (hi : i < s.size) (hs : s.size ≤ 1073741824) (x0 : UInt8) (e0 : s[i]'hi = x0) (x1 : UInt8) (hn1 : i + 1 < s.size) (e1 : s[i + 1]'hn1 = x1) (x2 : UInt8) (hn2 : i + 2 < s.size) (e2 : s[i + 2]'hn2 = x2) (x3 : UInt8) (hn3 : i + 3 < s.size) (e3 : s[i + 3]'hn3 = x3) (h1 : ¬ x0.toNat < 240) (h2 : x0.toNat < 245) (qa : ¬ x0.toNat = 240) (qb : x0.toNat = 244) (r1 : 128 ≤ x1.toNat) (r2 : x1.toNat ≤ 143) (cc2 : contB x2.toNat = true) (cc3 : contB x3.toNat = true) :
    Calls Tryf.prog 30 #[.string s, .int .i64 (i : Int)] w (DecRet (1048576 + (x1.toNat : Int) % 64 * 4096 + (x2.toNat : Int) % 64 * 64 + (x3.toNat : Int) % 64) 4 w) := by
  have _hs := hs
  have _h1 := h1
  have _h2 := h2
  have _qa := qa
  have _qb := qb
  have _r1 := r1
  have _r2 := r2
  have _e0 := e0
  have _e1 := e1
  have _e2 := e2
  have _e3 := e3
  clear _hs _h1 _h2 _qa _qb _r1 _r2 _e0 _e1 _e2 _e3
  have hz : (i : Int) < (s.size : Int) := by omega
  have hz1 : (i : Int) + 1 < (s.size : Int) := by omega
  have hz2 : (i : Int) + 2 < (s.size : Int) := by omega
  have hz3 : (i : Int) + 3 < (s.size : Int) := by omega
  have zh10 : ¬ (x0.toNat : Int) < 240 := by omega
  have zh11 : ¬ (x0.toNat : Int) < 224 := by omega
  have zh12 : ¬ (x0.toNat : Int) < 194 := by omega
  have zh13 : ¬ (x0.toNat : Int) < 128 := by omega
  have zh20 : (x0.toNat : Int) < 245 := by omega
  have zqa0 : ((x0.toNat : Int) == 240) = false := by simp; omega
  have zqb0 : ((x0.toNat : Int) == 244) = true := by simp; omega
  have zr10 : 128 ≤ (x1.toNat : Int) := by omega
  have zr20 : (x1.toNat : Int) ≤ 143 := by omega
  have hl := x0.toNat_lt
  have hl1 := x1.toNat_lt
  have hl2 := x2.toNat_lt
  have hl3 := x3.toNat_lt
  have _cc2 := cc2
  clear _cc2
  have _cc3 := cc3
  clear _cc3
  go_enter Tryf.func30, Tryf.ntmps30
  go_wp2_with (first | (go_at_call 46; refine (zzCont_true _ _ (by assumption)).mono ?_; rintro e w1 ⟨rfl, rfl⟩))
  go_quiet (fail)
  go_wp2
  go_ret2
  exact ⟨rfl, Below.drewN_refl _ _⟩
set_option maxRecDepth 100000 in
set_option maxHeartbeats 1000000 in
theorem decF4_end (s : ByteArray) (i : Nat) (w : World) (hi : i < s.size) (hs : s.size ≤ 1073741824) (x0 : UInt8) (e0 : s[i]'hi = x0) (h1 : ¬ x0.toNat < 240) (h2 : x0.toNat < 245) (qa : ¬ x0.toNat = 240) (qb : x0.toNat = 244) (h3 : ¬ i + 3 < s.size) :
    Calls Tryf.prog 30 #[.string s, .int .i64 (i : Int)] w (DecRet (65533) 1 w) := by
  have _hs := hs
  have _h1 := h1
  have _h2 := h2
  have _qa := qa
  have _qb := qb
  have _h3 := h3
  have _e0 := e0
  clear _hs _h1 _h2 _qa _qb _h3 _e0
  have hz : (i : Int) < (s.size : Int) := by omega
  have zh10 : ¬ (x0.toNat : Int) < 240 := by omega
  have zh11 : ¬ (x0.toNat : Int) < 224 := by omega
  have zh12 : ¬ (x0.toNat : Int) < 194 := by omega
  have zh13 : ¬ (x0.toNat : Int) < 128 := by omega
  have zh20 : (x0.toNat : Int) < 245 := by omega
  have zqa0 : ((x0.toNat : Int) == 240) = false := by simp; omega
  have zqb0 : ((x0.toNat : Int) == 244) = true := by simp; omega
  have zh30 : ¬ (i : Int) + 3 < (s.size : Int) := by omega
  have hl := x0.toNat_lt
  go_enter Tryf.func30, Tryf.ntmps30
  go_wp2
  go_ret2
  exact ⟨rfl, Below.refl _ _⟩
set_option maxRecDepth 100000 in
set_option maxHeartbeats 1000000 in
theorem decF4_lo (s : ByteArray) (i : Nat) (w : World) (hi : i < s.size) (hs : s.size ≤ 1073741824) (x0 : UInt8) (e0 : s[i]'hi = x0) (x1 : UInt8) (hn1 : i + 1 < s.size) (e1 : s[i + 1]'hn1 = x1) (x2 : UInt8) (hn2 : i + 2 < s.size) (e2 : s[i + 2]'hn2 = x2) (x3 : UInt8) (hn3 : i + 3 < s.size) (e3 : s[i + 3]'hn3 = x3) (h1 : ¬ x0.toNat < 240) (h2 : x0.toNat < 245) (qa : ¬ x0.toNat = 240) (qb : x0.toNat = 244) (r1 : ¬ 128 ≤ x1.toNat) :
    Calls Tryf.prog 30 #[.string s, .int .i64 (i : Int)] w (DecRet (65533) 1 w) := by
  have _hs := hs
  have _h1 := h1
  have _h2 := h2
  have _qa := qa
  have _qb := qb
  have _r1 := r1
  have _e0 := e0
  have _e1 := e1
  have _e2 := e2
  have _e3 := e3
  clear _hs _h1 _h2 _qa _qb _r1 _e0 _e1 _e2 _e3
  have hz : (i : Int) < (s.size : Int) := by omega
  have hz1 : (i : Int) + 1 < (s.size : Int) := by omega
  have hz2 : (i : Int) + 2 < (s.size : Int) := by omega
  have hz3 : (i : Int) + 3 < (s.size : Int) := by omega
  have zh10 : ¬ (x0.toNat : Int) < 240 := by omega
  have zh11 : ¬ (x0.toNat : Int) < 224 := by omega
  have zh12 : ¬ (x0.toNat : Int) < 194 := by omega
  have zh13 : ¬ (x0.toNat : Int) < 128 := by omega
  have zh20 : (x0.toNat : Int) < 245 := by omega
  have zqa0 : ((x0.toNat : Int) == 240) = false := by simp; omega
  have zqb0 : ((x0.toNat : Int) == 244) = true := by simp; omega
  have zr10 : ¬ 128 ≤ (x1.toNat : Int) := by omega
  have hl := x0.toNat_lt
  have hl1 := x1.toNat_lt
  have hl2 := x2.toNat_lt
  have hl3 := x3.toNat_lt
  go_enter Tryf.func30, Tryf.ntmps30
  go_wp2
  go_ret2
  exact ⟨rfl, Below.refl _ _⟩
set_option maxRecDepth 100000 in
set_option maxHeartbeats 1000000 in
theorem decF4_hi (s : ByteArray) (i : Nat) (w : World) (hi : i < s.size) (hs : s.size ≤ 1073741824) (x0 : UInt8) (e0 : s[i]'hi = x0) (x1 : UInt8) (hn1 : i + 1 < s.size) (e1 : s[i + 1]'hn1 = x1) (x2 : UInt8) (hn2 : i + 2 < s.size) (e2 : s[i + 2]'hn2 = x2) (x3 : UInt8) (hn3 : i + 3 < s.size) (e3 : s[i + 3]'hn3 = x3) (h1 : ¬ x0.toNat < 240) (h2 : x0.toNat < 245) (qa : ¬ x0.toNat = 240) (qb : x0.toNat = 244) (r1 : 128 ≤ x1.toNat) (r2 : ¬ x1.toNat ≤ 143) :
    Calls Tryf.prog 30 #[.string s, .int .i64 (i : Int)] w (DecRet (65533) 1 w) := by
  have _hs := hs
  have _h1 := h1
  have _h2 := h2
  have _qa := qa
  have _qb := qb
  have _r1 := r1
  have _r2 := r2
  have _e0 := e0
  have _e1 := e1
  have _e2 := e2
  have _e3 := e3
  clear _hs _h1 _h2 _qa _qb _r1 _r2 _e0 _e1 _e2 _e3
  have hz : (i : Int) < (s.size : Int) := by omega
  have hz1 : (i : Int) + 1 < (s.size : Int) := by omega
  have hz2 : (i : Int) + 2 < (s.size : Int) := by omega
  have hz3 : (i : Int) + 3 < (s.size : Int) := by omega
  have zh10 : ¬ (x0.toNat : Int) < 240 := by omega
  have zh11 : ¬ (x0.toNat : Int) < 224 := by omega
  have zh12 : ¬ (x0.toNat : Int) < 194 := by omega
  have zh13 : ¬ (x0.toNat : Int) < 128 := by omega
  have zh20 : (x0.toNat : Int) < 245 := by omega
  have zqa0 : ((x0.toNat : Int) == 240) = false := by simp; omega
  have zqb0 : ((x0.toNat : Int) == 244) = true := by simp; omega
  have zr10 : 128 ≤ (x1.toNat : Int) := by omega
  have zr20 : ¬ (x1.toNat : Int) ≤ 143 := by omega
  have hl := x0.toNat_lt
  have hl1 := x1.toNat_lt
  have hl2 := x2.toNat_lt
  have hl3 := x3.toNat_lt
  go_enter Tryf.func30, Tryf.ntmps30
  go_wp2
  go_ret2
  exact ⟨rfl, Below.refl _ _⟩
set_option maxRecDepth 100000 in
set_option maxHeartbeats 1000000 in
theorem decF4_c2 (s : ByteArray) (i : Nat) (w : World) (hi : i < s.size) (hs : s.size ≤ 1073741824) (x0 : UInt8) (e0 : s[i]'hi = x0) (x1 : UInt8) (hn1 : i + 1 < s.size) (e1 : s[i + 1]'hn1 = x1) (x2 : UInt8) (hn2 : i + 2 < s.size) (e2 : s[i + 2]'hn2 = x2) (x3 : UInt8) (hn3 : i + 3 < s.size) (e3 : s[i + 3]'hn3 = x3) (h1 : ¬ x0.toNat < 240) (h2 : x0.toNat < 245) (qa : ¬ x0.toNat = 240) (qb : x0.toNat = 244) (r1 : 128 ≤ x1.toNat) (r2 : x1.toNat ≤ 143) (cc2 : contB x2.toNat = false) :
    Calls Tryf.prog 30 #[.string s, .int .i64 (i : Int)] w (DecRet (65533) 1 w) := by
  have _hs := hs
  have _h1 := h1
  have _h2 := h2
  have _qa := qa
  have _qb := qb
  have _r1 := r1
  have _r2 := r2
  have _e0 := e0
  have _e1 := e1
  have _e2 := e2
  have _e3 := e3
  clear _hs _h1 _h2 _qa _qb _r1 _r2 _e0 _e1 _e2 _e3
  have hz : (i : Int) < (s.size : Int) := by omega
  have hz1 : (i : Int) + 1 < (s.size : Int) := by omega
  have hz2 : (i : Int) + 2 < (s.size : Int) := by omega
  have hz3 : (i : Int) + 3 < (s.size : Int) := by omega
  have zh10 : ¬ (x0.toNat : Int) < 240 := by omega
  have zh11 : ¬ (x0.toNat : Int) < 224 := by omega
  have zh12 : ¬ (x0.toNat : Int) < 194 := by omega
  have zh13 : ¬ (x0.toNat : Int) < 128 := by omega
  have zh20 : (x0.toNat : Int) < 245 := by omega
  have zqa0 : ((x0.toNat : Int) == 240) = false := by simp; omega
  have zqb0 : ((x0.toNat : Int) == 244) = true := by simp; omega
  have zr10 : 128 ≤ (x1.toNat : Int) := by omega
  have zr20 : (x1.toNat : Int) ≤ 143 := by omega
  have hl := x0.toNat_lt
  have hl1 := x1.toNat_lt
  have hl2 := x2.toNat_lt
  have hl3 := x3.toNat_lt
  have _cc2 := cc2
  clear _cc2
  go_enter Tryf.func30, Tryf.ntmps30
  go_wp2_with (first | (go_at_call 46; refine (zzCont_false _ _ (by assumption)).mono ?_; rintro e w1 ⟨rfl, rfl⟩))
  go_ret2
  exact ⟨rfl, Below.refl _ _⟩
set_option maxRecDepth 100000 in
set_option maxHeartbeats 1000000 in
theorem decF4_c3 (s : ByteArray) (i : Nat) (w : World) (hi : i < s.size) (hs : s.size ≤ 1073741824) (x0 : UInt8) (e0 : s[i]'hi = x0) (x1 : UInt8) (hn1 : i + 1 < s.size) (e1 : s[i + 1]'hn1 = x1) (x2 : UInt8) (hn2 : i + 2 < s.size) (e2 : s[i + 2]'hn2 = x2) (x3 : UInt8) (hn3 : i + 3 < s.size) (e3 : s[i + 3]'hn3 = x3) (h1 : ¬ x0.toNat < 240) (h2 : x0.toNat < 245) (qa : ¬ x0.toNat = 240) (qb : x0.toNat = 244) (r1 : 128 ≤ x1.toNat) (r2 : x1.toNat ≤ 143) (cc2 : contB x2.toNat = true) (cc3 : contB x3.toNat = false) :
    Calls Tryf.prog 30 #[.string s, .int .i64 (i : Int)] w (DecRet (65533) 1 w) := by
  have _hs := hs
  have _h1 := h1
  have _h2 := h2
  have _qa := qa
  have _qb := qb
  have _r1 := r1
  have _r2 := r2
  have _e0 := e0
  have _e1 := e1
  have _e2 := e2
  have _e3 := e3
  clear _hs _h1 _h2 _qa _qb _r1 _r2 _e0 _e1 _e2 _e3
  have hz : (i : Int) < (s.size : Int) := by omega
  have hz1 : (i : Int) + 1 < (s.size : Int) := by omega
  have hz2 : (i : Int) + 2 < (s.size : Int) := by omega
  have hz3 : (i : Int) + 3 < (s.size : Int) := by omega
  have zh10 : ¬ (x0.toNat : Int) < 240 := by omega
  have zh11 : ¬ (x0.toNat : Int) < 224 := by omega
  have zh12 : ¬ (x0.toNat : Int) < 194 := by omega
  have zh13 : ¬ (x0.toNat : Int) < 128 := by omega
  have zh20 : (x0.toNat : Int) < 245 := by omega
  have zqa0 : ((x0.toNat : Int) == 240) = false := by simp; omega
  have zqb0 : ((x0.toNat : Int) == 244) = true := by simp; omega
  have zr10 : 128 ≤ (x1.toNat : Int) := by omega
  have zr20 : (x1.toNat : Int) ≤ 143 := by omega
  have hl := x0.toNat_lt
  have hl1 := x1.toNat_lt
  have hl2 := x2.toNat_lt
  have hl3 := x3.toNat_lt
  have _cc2 := cc2
  clear _cc2
  have _cc3 := cc3
  clear _cc3
  go_enter Tryf.func30, Tryf.ntmps30
  go_wp2_with (first | (go_at_call 46; refine (zzCont_true _ _ (by assumption)).mono ?_; rintro e w1 ⟨rfl, rfl⟩) | (go_at_call 46; refine (zzCont_false _ _ (by assumption)).mono ?_; rintro e w1 ⟨rfl, rfl⟩))
  go_ret2
  exact ⟨rfl, Below.refl _ _⟩
set_option maxRecDepth 100000 in
set_option maxHeartbeats 1000000 in
theorem decFO_ok (s : ByteArray) (i : Nat) (w : World) (hi : i < s.size) (hs : s.size ≤ 1073741824) (x0 : UInt8) (e0 : s[i]'hi = x0) (x1 : UInt8) (hn1 : i + 1 < s.size) (e1 : s[i + 1]'hn1 = x1) (x2 : UInt8) (hn2 : i + 2 < s.size) (e2 : s[i + 2]'hn2 = x2) (x3 : UInt8) (hn3 : i + 3 < s.size) (e3 : s[i + 3]'hn3 = x3) (h1 : ¬ x0.toNat < 240) (h2 : x0.toNat < 245) (qa : ¬ x0.toNat = 240) (qb : ¬ x0.toNat = 244) (r1 : 128 ≤ x1.toNat) (r2 : x1.toNat ≤ 191) (cc2 : contB x2.toNat = true) (cc3 : contB x3.toNat = true) :
    Calls Tryf.prog 30 #[.string s, .int .i64 (i : Int)] w (DecRet ((x0.toNat : Int) % 8 * 262144 + (x1.toNat : Int) % 64 * 4096 + (x2.toNat : Int) % 64 * 64 + (x3.toNat : Int) % 64) 4 w) := by
  have _hs := hs
  have _h1 := h1
  have _h2 := h2
  have _qa := qa
  have _qb := qb
  have _r1 := r1
  have _r2 := r2
  have _e0 := e0
  have _e1 := e1
  have _e2 := e2
  have _e3 := e3
  clear _hs _h1 _h2 _qa _qb _r1 _r2 _e0 _e1 _e2 _e3
  have hz : (i : Int) < (s.size : Int) := by omega
  have hz1 : (i : Int) + 1 < (s.size : Int) := by omega
  have hz2 : (i : Int) + 2 < (s.size : Int) := by omega
  have hz3 : (i : Int) + 3 < (s.size : Int) := by omega
  have zh10 : ¬ (x0.toNat : Int) < 240 := by omega
  have zh11 : ¬ (x0.toNat : Int) < 224 := by omega
  have zh12 : ¬ (x0.toNat : Int) < 194 := by omega
  have zh13 : ¬ (x0.toNat : Int) < 128 := by omega
  have zh20 : (x0.toNat : Int) < 245 := by omega
  have zqa0 : ((x0.toNat : Int) == 240) = false := by simp; omega
  have zqb0 : ((x0.toNat : Int) == 244) = false := by simp; omega
  have zr10 : 128 ≤ (x1.toNat : Int) := by omega
  have zr20 : (x1.toNat : Int) ≤ 191 := by omega
  have hl := x0.toNat_lt
  have hl1 := x1.toNat_lt
  have hl2 := x2.toNat_lt
  have hl3 := x3.toNat_lt
  have _cc2 := cc2
  clear _cc2
  have _cc3 := cc3
  clear _cc3
  go_enter Tryf.func30, Tryf.ntmps30
  go_wp2_with (first | (go_at_call 46; refine (zzCont_true _ _ (by assumption)).mono ?_; rintro e w1 ⟨rfl, rfl⟩))
  go_quiet (fail)
  go_wp2
  go_ret2
  exact ⟨rfl, Below.drewN_refl _ _⟩
set_option maxRecDepth 100000 in
set_option maxHeartbeats 1000000 in
theorem decFO_end (s : ByteArray) (i : Nat) (w : World) (hi : i < s.size) (hs : s.size ≤ 1073741824) (x0 : UInt8) (e0 : s[i]'hi = x0) (h1 : ¬ x0.toNat < 240) (h2 : x0.toNat < 245) (qa : ¬ x0.toNat = 240) (qb : ¬ x0.toNat = 244) (h3 : ¬ i + 3 < s.size) :
    Calls Tryf.prog 30 #[.string s, .int .i64 (i : Int)] w (DecRet (65533) 1 w) := by
  have _hs := hs
  have _h1 := h1
  have _h2 := h2
  have _qa := qa
  have _qb := qb
  have _h3 := h3
  have _e0 := e0
  clear _hs _h1 _h2 _qa _qb _h3 _e0
  have hz : (i : Int) < (s.size : Int) := by omega
  have zh10 : ¬ (x0.toNat : Int) < 240 := by omega
  have zh11 : ¬ (x0.toNat : Int) < 224 := by omega
  have zh12 : ¬ (x0.toNat : Int) < 194 := by omega
  have zh13 : ¬ (x0.toNat : Int) < 128 := by omega
  have zh20 : (x0.toNat : Int) < 245 := by omega
  have zqa0 : ((x0.toNat : Int) == 240) = false := by simp; omega
  have zqb0 : ((x0.toNat : Int) == 244) = false := by simp; omega
  have zh30 : ¬ (i : Int) + 3 < (s.size : Int) := by omega
  have hl := x0.toNat_lt
  go_enter Tryf.func30, Tryf.ntmps30
  go_wp2
  go_ret2
  exact ⟨rfl, Below.refl _ _⟩
set_option maxRecDepth 100000 in
set_option maxHeartbeats 1000000 in
theorem decFO_lo (s : ByteArray) (i : Nat) (w : World) (hi : i < s.size) (hs : s.size ≤ 1073741824) (x0 : UInt8) (e0 : s[i]'hi = x0) (x1 : UInt8) (hn1 : i + 1 < s.size) (e1 : s[i + 1]'hn1 = x1) (x2 : UInt8) (hn2 : i + 2 < s.size) (e2 : s[i + 2]'hn2 = x2) (x3 : UInt8) (hn3 : i + 3 < s.size) (e3 : s[i + 3]'hn3 = x3) (h1 : ¬ x0.toNat < 240) (h2 : x0.toNat < 245) (qa : ¬ x0.toNat = 240) (qb : ¬ x0.toNat = 244) (r1 : ¬ 128 ≤ x1.toNat) :
    Calls Tryf.prog 30 #[.string s, .int .i64 (i : Int)] w (DecRet (65533) 1 w) := by
  have _hs := hs
  have _h1 := h1
  have _h2 := h2
  have _qa := qa
  have _qb := qb
  have _r1 := r1
  have _e0 := e0
  have _e1 := e1
  have _e2 := e2
  have _e3 := e3
  clear _hs _h1 _h2 _qa _qb _r1 _e0 _e1 _e2 _e3
  have hz : (i : Int) < (s.size : Int) := by omega
  have hz1 : (i : Int) + 1 < (s.size : Int) := by omega
  have hz2 : (i : Int) + 2 < (s.size : Int) := by omega
  have hz3 : (i : Int) + 3 < (s.size : Int) := by omega
  have zh10 : ¬ (x0.toNat : Int) < 240 := by omega
  have zh11 : ¬ (x0.toNat : Int) < 224 := by omega
  have zh12 : ¬ (x0.toNat : Int) < 194 := by omega
  have zh13 : ¬ (x0.toNat : Int) < 128 := by omega
  have zh20 : (x0.toNat : Int) < 245 := by omega
  have zqa0 : ((x0.toNat : Int) == 240) = false := by simp; omega
  have zqb0 : ((x0.toNat : Int) == 244) = false := by simp; omega
  have zr10 : ¬ 128 ≤ (x1.toNat : Int) := by omega
  have hl := x0.toNat_lt
  have hl1 := x1.toNat_lt
  have hl2 := x2.toNat_lt
  have hl3 := x3.toNat_lt
  go_enter Tryf.func30, Tryf.ntmps30
  go_wp2
  go_ret2
  exact ⟨rfl, Below.refl _ _⟩
set_option maxRecDepth 100000 in
set_option maxHeartbeats 1000000 in
theorem decFO_hi (s : ByteArray) (i : Nat) (w : World) (hi : i < s.size) (hs : s.size ≤ 1073741824) (x0 : UInt8) (e0 : s[i]'hi = x0) (x1 : UInt8) (hn1 : i + 1 < s.size) (e1 : s[i + 1]'hn1 = x1) (x2 : UInt8) (hn2 : i + 2 < s.size) (e2 : s[i + 2]'hn2 = x2) (x3 : UInt8) (hn3 : i + 3 < s.size) (e3 : s[i + 3]'hn3 = x3) (h1 : ¬ x0.toNat < 240) (h2 : x0.toNat < 245) (qa : ¬ x0.toNat = 240) (qb : ¬ x0.toNat = 244) (r1 : 128 ≤ x1.toNat) (r2 : ¬ x1.toNat ≤ 191) :
    Calls Tryf.prog 30 #[.string s, .int .i64 (i : Int)] w (DecRet (65533) 1 w) := by
  have _hs := hs
  have _h1 := h1
  have _h2 := h2
  have _qa := qa
  have _qb := qb
  have _r1 := r1
  have _r2 := r2
  have _e0 := e0
  have _e1 := e1
  have _e2 := e2
  have _e3 := e3
  clear _hs _h1 _h2 _qa _qb _r1 _r2 _e0 _e1 _e2 _e3
  have hz : (i : Int) < (s.size : Int) := by omega
  have hz1 : (i : Int) + 1 < (s.size : Int) := by omega
  have hz2 : (i : Int) + 2 < (s.size : Int) := by omega
  have hz3 : (i : Int) + 3 < (s.size : Int) := by omega
  have zh10 : ¬ (x0.toNat : Int) < 240 := by omega
  have zh11 : ¬ (x0.toNat : Int) < 224 := by omega
  have zh12 : ¬ (x0.toNat : Int) < 194 := by omega
  have zh13 : ¬ (x0.toNat : Int) < 128 := by omega
  have zh20 : (x0.toNat : Int) < 245 := by omega
  have zqa0 : ((x0.toNat : Int) == 240) = false := by simp; omega
  have zqb0 : ((x0.toNat : Int) == 244) = false := by simp; omega
  have zr10 : 128 ≤ (x1.toNat : Int) := by omega
  have zr20 : ¬ (x1.toNat : Int) ≤ 191 := by omega
  have hl := x0.toNat_lt
  have hl1 := x1.toNat_lt
  have hl2 := x2.toNat_lt
  have hl3 := x3.toNat_lt
  go_enter Tryf.func30, Tryf.ntmps30
  go_wp2
  go_ret2
  exact ⟨rfl, Below.refl _ _⟩
set_option maxRecDepth 100000 in
set_option maxHeartbeats 1000000 in
theorem decFO_c2 (s : ByteArray) (i : Nat) (w : World) (hi : i < s.size) (hs : s.size ≤ 1073741824) (x0 : UInt8) (e0 : s[i]'hi = x0) (x1 : UInt8) (hn1 : i + 1 < s.size) (e1 : s[i + 1]'hn1 = x1) (x2 : UInt8) (hn2 : i + 2 < s.size) (e2 : s[i + 2]'hn2 = x2) (x3 : UInt8) (hn3 : i + 3 < s.size) (e3 : s[i + 3]'hn3 = x3) (h1 : ¬ x0.toNat < 240) (h2 : x0.toNat < 245) (qa : ¬ x0.toNat = 240) (qb : ¬ x0.toNat = 244) (r1 : 128 ≤ x1.toNat) (r2 : x1.toNat ≤ 191) (cc2 : contB x2.toNat = false) :
    Calls Tryf.prog 30 #[.string s, .int .i64 (i : Int)] w (DecRet (65533) 1 w) := by
  have _hs := hs
  have _h1 := h1
  have _h2 := h2
  have _qa := qa
  have _qb := qb
  have _r1 := r1
  have _r2 := r2
  have _e0 := e0
  have _e1 := e1
  have _e2 := e2
  have _e3 := e3
  clear _hs _h1 _h2 _qa _qb _r1 _r2 _e0 _e1 _e2 _e3
  have hz : (i : Int) < (s.size : Int) := by omega
  have hz1 : (i : Int) + 1 < (s.size : Int) := by omega
  have hz2 : (i : Int) + 2 < (s.size : Int) := by omega
  have hz3 : (i : Int) + 3 < (s.size : Int) := by omega
  have zh10 : ¬ (x0.toNat : Int) < 240 := by omega
  have zh11 : ¬ (x0.toNat : Int) < 224 := by omega
  have zh12 : ¬ (x0.toNat : Int) < 194 := by omega
  have zh13 : ¬ (x0.toNat : Int) < 128 := by omega
  have zh20 : (x0.toNat : Int) < 245 := by omega
  have zqa0 : ((x0.toNat : Int) == 240) = false := by simp; omega
  have zqb0 : ((x0.toNat : Int) == 244) = false := by simp; omega
  have zr10 : 128 ≤ (x1.toNat : Int) := by omega
  have zr20 : (x1.toNat : Int) ≤ 191 := by omega
  have hl := x0.toNat_lt
  have hl1 := x1.toNat_lt
  have hl2 := x2.toNat_lt
  have hl3 := x3.toNat_lt
  have _cc2 := cc2
  clear _cc2
  go_enter Tryf.func30, Tryf.ntmps30
  go_wp2_with (first | (go_at_call 46; refine (zzCont_false _ _ (by assumption)).mono ?_; rintro e w1 ⟨rfl, rfl⟩))
  go_ret2
  exact ⟨rfl, Below.refl _ _⟩
set_option maxRecDepth 100000 in
set_option maxHeartbeats 1000000 in
theorem decFO_c3 (s : ByteArray) (i : Nat) (w : World) (hi : i < s.size) (hs : s.size ≤ 1073741824) (x0 : UInt8) (e0 : s[i]'hi = x0) (x1 : UInt8) (hn1 : i + 1 < s.size) (e1 : s[i + 1]'hn1 = x1) (x2 : UInt8) (hn2 : i + 2 < s.size) (e2 : s[i + 2]'hn2 = x2) (x3 : UInt8) (hn3 : i + 3 < s.size) (e3 : s[i + 3]'hn3 = x3) (h1 : ¬ x0.toNat < 240) (h2 : x0.toNat < 245) (qa : ¬ x0.toNat = 240) (qb : ¬ x0.toNat = 244) (r1 : 128 ≤ x1.toNat) (r2 : x1.toNat ≤ 191) (cc2 : contB x2.toNat = true) (cc3 : contB x3.toNat = false) :
    Calls Tryf.prog 30 #[.string s, .int .i64 (i : Int)] w (DecRet (65533) 1 w) := by
  have _hs := hs
  have _h1 := h1
  have _h2 := h2
  have _qa := qa
  have _qb := qb
  have _r1 := r1
  have _r2 := r2
  have _e0 := e0
  have _e1 := e1
  have _e2 := e2
  have _e3 := e3
  clear _hs _h1 _h2 _qa _qb _r1 _r2 _e0 _e1 _e2 _e3
  have hz : (i : Int) < (s.size : Int) := by omega
  have hz1 : (i : Int) + 1 < (s.size : Int) := by omega
  have hz2 : (i : Int) + 2 < (s.size : Int) := by omega
  have hz3 : (i : Int) + 3 < (s.size : Int) := by omega
  have zh10 : ¬ (x0.toNat : Int) < 240 := by omega
  have zh11 : ¬ (x0.toNat : Int) < 224 := by omega
  have zh12 : ¬ (x0.toNat : Int) < 194 := by omega
  have zh13 : ¬ (x0.toNat : Int) < 128 := by omega
  have zh20 : (x0.toNat : Int) < 245 := by omega
  have zqa0 : ((x0.toNat : Int) == 240) = false := by simp; omega
  have zqb0 : ((x0.toNat : Int) == 244) = false := by simp; omega
  have zr10 : 128 ≤ (x1.toNat : Int) := by omega
  have zr20 : (x1.toNat : Int) ≤ 191 := by omega
  have hl := x0.toNat_lt
  have hl1 := x1.toNat_lt
  have hl2 := x2.toNat_lt
  have hl3 := x3.toNat_lt
  have _cc2 := cc2
  clear _cc2
  have _cc3 := cc3
  clear _cc3
  go_enter Tryf.func30, Tryf.ntmps30
  go_wp2_with (first | (go_at_call 46; refine (zzCont_true _ _ (by assumption)).mono ?_; rintro e w1 ⟨rfl, rfl⟩) | (go_at_call 46; refine (zzCont_false _ _ (by assumption)).mono ?_; rintro e w1 ⟨rfl, rfl⟩))
  go_ret2
  exact ⟨rfl, Below.refl _ _⟩

end Go.Proofs.YtdlkdojgbiahgaaFmt.Lx
