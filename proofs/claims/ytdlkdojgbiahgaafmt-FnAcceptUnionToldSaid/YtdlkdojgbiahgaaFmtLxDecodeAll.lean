/-
  zzDecode, the law's own decoder, gives at every place of a text of at most 2^30 bytes the rune and the width that the model's decoder gives.
-/
import Derived.Test.YtdlkdojgbiahgaaFmtLxDecodeN
import Derived.Test.YtdlkdojgbiahgaaFmtLxDecode4
namespace Go.Proofs.YtdlkdojgbiahgaaFmt.Lx
open Go.RowKit Go.Lib

set_option maxHeartbeats 2000000 in
theorem zzDecode_any (s : ByteArray) (i : Nat) (w : World) (hi : i < s.size) (hs : s.size ≤ 1073741824) :
    Calls Tryf.prog 30 #[.string s, .int .i64 (i : Int)] w (DecRet (dr s i : Int) (dw s i : Int) w) := by
  have fin : ∀ (r k : Nat) (r' k' : Int), decodeN (s.size - i) (bt s i) (bt s (i + 1)) (bt s (i + 2)) (bt s (i + 3)) = (r, k) → (r : Int) = r' → (k : Int) = k' →
      Calls Tryf.prog 30 #[.string s, .int .i64 (i : Int)] w (DecRet r' k' w) → Calls Tryf.prog 30 #[.string s, .int .i64 (i : Int)] w (DecRet (dr s i : Int) (dw s i : Int) w) := by
    intro r k r' k' he hr hk hc
    have e : Utf8.decode s i = (r, k) := (dec_eq s i).trans he
    have e1 : dr s i = r := congrArg Prod.fst e
    have e2 : dw s i = k := congrArg Prod.snd e
    rw [e1, e2, hr, hk]
    exact hc
  obtain ⟨x0, e0⟩ : ∃ x0, s[i]'hi = x0 := ⟨_, rfl⟩
  have b0 : bt s i = x0.toNat := by rw [bt_get s i hi, e0]
  have l1 := bt_lt s (i + 1)
  rw [b0] at fin
  have lx := x0.toNat_lt
  by_cases c1 : x0.toNat < 128
  · exact fin _ _ _ _ (dN_one _ _ _ _ _ c1) rfl rfl (dec_one s i w hi hs x0 e0 c1)
  by_cases c2 : x0.toNat < 194
  · exact fin _ _ _ _ (dN_low _ _ _ _ _ c1 c2) rfl rfl (dec_low s i w hi hs x0 e0 c1 c2)
  by_cases c3 : x0.toNat < 224
  · by_cases hn1 : i + 1 < s.size
    · obtain ⟨x1, e1⟩ : ∃ x1, s[i + 1]'hn1 = x1 := ⟨_, rfl⟩
      have b1 : bt s (i + 1) = x1.toNat := by rw [bt_get s _ hn1, e1]
      rw [b1] at fin
      cases cc : contB x1.toNat with
      | true => exact fin _ _ _ _ (dN_two _ _ _ _ _ c2 c3 (by omega) (contB_iff.1 cc)) (by simp) rfl (dec_two s i w hi hs x0 e0 x1 hn1 e1 c2 c3 cc)
      | false => exact fin _ _ _ _ (dN_two_no _ _ _ _ _ c2 c3 (fun h => contB_no.1 cc h.2)) rfl rfl (dec_two_no s i w hi hs x0 e0 x1 hn1 e1 c2 c3 cc)
    · exact fin _ _ _ _ (dN_two_no _ _ _ _ _ c2 c3 (fun h => by omega)) rfl rfl (dec_two_end s i w hi hs x0 e0 c2 c3 hn1)
  by_cases c4 : x0.toNat < 240
  · by_cases qa : x0.toNat = 224
    · have qb : ¬ x0.toNat = 237 := by omega
      have hlo : lo3 x0.toNat = 160 := by unfold lo3; rw [if_pos qa]
      have hhi : hi3 x0.toNat = 191 := by unfold hi3; rw [if_neg qb]
      by_cases hn2 : i + 2 < s.size
      · have hn1 : i + 1 < s.size := by omega
        obtain ⟨x1, e1⟩ : ∃ x1, s[i + 1]'hn1 = x1 := ⟨_, rfl⟩
        have b1 : bt s (i + 1) = x1.toNat := by rw [bt_get s _ hn1, e1]
        rw [b1] at fin
        obtain ⟨x2, e2⟩ : ∃ x2, s[i + 2]'hn2 = x2 := ⟨_, rfl⟩
        have b2 : bt s (i + 2) = x2.toNat := by rw [bt_get s _ hn2, e2]
        rw [b2] at fin
        have lx1 := x1.toNat_lt
        by_cases r1 : 160 ≤ x1.toNat
        · by_cases r2 : x1.toNat ≤ 191
          · cases cc2 : contB x2.toNat with
            | true => exact fin _ _ _ _ (dN_three _ _ _ _ _ c3 c4 (by omega) (by omega) (by omega) (contB_iff.1 cc2)) (by omega) rfl (decE0_ok s i w hi hs x0 e0 x1 hn1 e1 x2 hn2 e2 c3 c4 qa qb r1 r2 cc2)
            | false => exact fin _ _ _ _ (dN_three_no _ _ _ _ _ c3 c4 (by omega) (fun h => contB_no.1 cc2 h.2.2.2)) rfl rfl (decE0_c2 s i w hi hs x0 e0 x1 hn1 e1 x2 hn2 e2 c3 c4 qa qb r1 r2 cc2)
          · exact fin _ _ _ _ (dN_three_no _ _ _ _ _ c3 c4 (by omega) (fun h => by have := h.2.2.1; omega)) rfl rfl (decE0_hi s i w hi hs x0 e0 x1 hn1 e1 x2 hn2 e2 c3 c4 qa qb r1 r2)
        · exact fin _ _ _ _ (dN_three_no _ _ _ _ _ c3 c4 (by omega) (fun h => by have := h.2.1; omega)) rfl rfl (decE0_lo s i w hi hs x0 e0 x1 hn1 e1 x2 hn2 e2 c3 c4 qa qb r1)
      · exact fin _ _ _ _ (dN_three_no _ _ _ _ _ c3 c4 l1 (fun h => by omega)) rfl rfl (decE0_end s i w hi hs x0 e0 c3 c4 qa qb hn2)
    by_cases qb : x0.toNat = 237
    · have hlo : lo3 x0.toNat = 128 := by unfold lo3; rw [if_neg qa]
      have hhi : hi3 x0.toNat = 159 := by unfold hi3; rw [if_pos qb]
      by_cases hn2 : i + 2 < s.size
      · have hn1 : i + 1 < s.size := by omega
        obtain ⟨x1, e1⟩ : ∃ x1, s[i + 1]'hn1 = x1 := ⟨_, rfl⟩
        have b1 : bt s (i + 1) = x1.toNat := by rw [bt_get s _ hn1, e1]
        rw [b1] at fin
        obtain ⟨x2, e2⟩ : ∃ x2, s[i + 2]'hn2 = x2 := ⟨_, rfl⟩
        have b2 : bt s (i + 2) = x2.toNat := by rw [bt_get s _ hn2, e2]
        rw [b2] at fin
        have lx1 := x1.toNat_lt
        by_cases r1 : 128 ≤ x1.toNat
        · by_cases r2 : x1.toNat ≤ 159
          · cases cc2 : contB x2.toNat with
            | true => exact fin _ _ _ _ (dN_three _ _ _ _ _ c3 c4 (by omega) (by omega) (by omega) (contB_iff.1 cc2)) (by omega) rfl (decED_ok s i w hi hs x0 e0 x1 hn1 e1 x2 hn2 e2 c3 c4 qa qb r1 r2 cc2)
            | false => exact fin _ _ _ _ (dN_three_no _ _ _ _ _ c3 c4 (by omega) (fun h => contB_no.1 cc2 h.2.2.2)) rfl rfl (decED_c2 s i w hi hs x0 e0 x1 hn1 e1 x2 hn2 e2 c3 c4 qa qb r1 r2 cc2)
          · exact fin _ _ _ _ (dN_three_no _ _ _ _ _ c3 c4 (by omega) (fun h => by have := h.2.2.1; omega)) rfl rfl (decED_hi s i w hi hs x0 e0 x1 hn1 e1 x2 hn2 e2 c3 c4 qa qb r1 r2)
        · exact fin _ _ _ _ (dN_three_no _ _ _ _ _ c3 c4 (by omega) (fun h => by have := h.2.1; omega)) rfl rfl (decED_lo s i w hi hs x0 e0 x1 hn1 e1 x2 hn2 e2 c3 c4 qa qb r1)
      · exact fin _ _ _ _ (dN_three_no _ _ _ _ _ c3 c4 l1 (fun h => by omega)) rfl rfl (decED_end s i w hi hs x0 e0 c3 c4 qa qb hn2)
    have hlo : lo3 x0.toNat = 128 := by unfold lo3; rw [if_neg qa]
    have hhi : hi3 x0.toNat = 191 := by unfold hi3; rw [if_neg qb]
    by_cases hn2 : i + 2 < s.size
    · have hn1 : i + 1 < s.size := by omega
      obtain ⟨x1, e1⟩ : ∃ x1, s[i + 1]'hn1 = x1 := ⟨_, rfl⟩
      have b1 : bt s (i + 1) = x1.toNat := by rw [bt_get s _ hn1, e1]
      rw [b1] at fin
      obtain ⟨x2, e2⟩ : ∃ x2, s[i + 2]'hn2 = x2 := ⟨_, rfl⟩
      have b2 : bt s (i + 2) = x2.toNat := by rw [bt_get s _ hn2, e2]
      rw [b2] at fin
      have lx1 := x1.toNat_lt
      by_cases r1 : 128 ≤ x1.toNat
      · by_cases r2 : x1.toNat ≤ 191
        · cases cc2 : contB x2.toNat with
          | true => exact fin _ _ _ _ (dN_three _ _ _ _ _ c3 c4 (by omega) (by omega) (by omega) (contB_iff.1 cc2)) (by omega) rfl (decEO_ok s i w hi hs x0 e0 x1 hn1 e1 x2 hn2 e2 c3 c4 qa qb r1 r2 cc2)
          | false => exact fin _ _ _ _ (dN_three_no _ _ _ _ _ c3 c4 (by omega) (fun h => contB_no.1 cc2 h.2.2.2)) rfl rfl (decEO_c2 s i w hi hs x0 e0 x1 hn1 e1 x2 hn2 e2 c3 c4 qa qb r1 r2 cc2)
        · exact fin _ _ _ _ (dN_three_no _ _ _ _ _ c3 c4 (by omega) (fun h => by have := h.2.2.1; omega)) rfl rfl (decEO_hi s i w hi hs x0 e0 x1 hn1 e1 x2 hn2 e2 c3 c4 qa qb r1 r2)
      · exact fin _ _ _ _ (dN_three_no _ _ _ _ _ c3 c4 (by omega) (fun h => by have := h.2.1; omega)) rfl rfl (decEO_lo s i w hi hs x0 e0 x1 hn1 e1 x2 hn2 e2 c3 c4 qa qb r1)
    · exact fin _ _ _ _ (dN_three_no _ _ _ _ _ c3 c4 l1 (fun h => by omega)) rfl rfl (decEO_end s i w hi hs x0 e0 c3 c4 qa qb hn2)
  by_cases c5 : x0.toNat < 245
  · by_cases qa : x0.toNat = 240
    · have qb : ¬ x0.toNat = 244 := by omega
      have hlo : lo4 x0.toNat = 144 := by unfold lo4; rw [if_pos qa]
      have hhi : hi4 x0.toNat = 191 := by unfold hi4; rw [if_neg qb]
      by_cases hn3 : i + 3 < s.size
      · have hn1 : i + 1 < s.size := by omega
        have hn2 : i + 2 < s.size := by omega
        obtain ⟨x1, e1⟩ : ∃ x1, s[i + 1]'hn1 = x1 := ⟨_, rfl⟩
        have b1 : bt s (i + 1) = x1.toNat := by rw [bt_get s _ hn1, e1]
        rw [b1] at fin
        obtain ⟨x2, e2⟩ : ∃ x2, s[i + 2]'hn2 = x2 := ⟨_, rfl⟩
        have b2 : bt s (i + 2) = x2.toNat := by rw [bt_get s _ hn2, e2]
        rw [b2] at fin
        obtain ⟨x3, e3⟩ : ∃ x3, s[i + 3]'hn3 = x3 := ⟨_, rfl⟩
        have b3 : bt s (i + 3) = x3.toNat := by rw [bt_get s _ hn3, e3]
        rw [b3] at fin
        have lx1 := x1.toNat_lt
        by_cases r1 : 144 ≤ x1.toNat
        · by_cases r2 : x1.toNat ≤ 191
          · cases cc2 : contB x2.toNat with
            | true =>
              cases cc3 : contB x3.toNat with
              | true => exact fin _ _ _ _ (dN_four _ _ _ _ _ c4 c5 (by omega) (by omega) (by omega) (contB_iff.1 cc2) (contB_iff.1 cc3)) (by omega) rfl (decF0_ok s i w hi hs x0 e0 x1 hn1 e1 x2 hn2 e2 x3 hn3 e3 c4 c5 qa qb r1 r2 cc2 cc3)
              | false => exact fin _ _ _ _ (dN_four_no _ _ _ _ _ c4 c5 (by omega) (fun h => contB_no.1 cc3 h.2.2.2.2)) rfl rfl (decF0_c3 s i w hi hs x0 e0 x1 hn1 e1 x2 hn2 e2 x3 hn3 e3 c4 c5 qa qb r1 r2 cc2 cc3)
            | false => exact fin _ _ _ _ (dN_four_no _ _ _ _ _ c4 c5 (by omega) (fun h => contB_no.1 cc2 h.2.2.2.1)) rfl rfl (decF0_c2 s i w hi hs x0 e0 x1 hn1 e1 x2 hn2 e2 x3 hn3 e3 c4 c5 qa qb r1 r2 cc2)
          · exact fin _ _ _ _ (dN_four_no _ _ _ _ _ c4 c5 (by omega) (fun h => by have := h.2.2.1; omega)) rfl rfl (decF0_hi s i w hi hs x0 e0 x1 hn1 e1 x2 hn2 e2 x3 hn3 e3 c4 c5 qa qb r1 r2)
        · exact fin _ _ _ _ (dN_four_no _ _ _ _ _ c4 c5 (by omega) (fun h => by have := h.2.1; omega)) rfl rfl (decF0_lo s i w hi hs x0 e0 x1 hn1 e1 x2 hn2 e2 x3 hn3 e3 c4 c5 qa qb r1)
      · exact fin _ _ _ _ (dN_four_no _ _ _ _ _ c4 c5 l1 (fun h => by omega)) rfl rfl (decF0_end s i w hi hs x0 e0 c4 c5 qa qb hn3)
    by_cases qb : x0.toNat = 244
    · have hlo : lo4 x0.toNat = 128 := by unfold lo4; rw [if_neg qa]
      have hhi : hi4 x0.toNat = 143 := by unfold hi4; rw [if_pos qb]
      by_cases hn3 : i + 3 < s.size
      · have hn1 : i + 1 < s.size := by omega
        have hn2 : i + 2 < s.size := by omega
        obtain ⟨x1, e1⟩ : ∃ x1, s[i + 1]'hn1 = x1 := ⟨_, rfl⟩
        have b1 : bt s (i + 1) = x1.toNat := by rw [bt_get s _ hn1, e1]
        rw [b1] at fin
        obtain ⟨x2, e2⟩ : ∃ x2, s[i + 2]'hn2 = x2 := ⟨_, rfl⟩
        have b2 : bt s (i + 2) = x2.toNat := by rw [bt_get s _ hn2, e2]
        rw [b2] at fin
        obtain ⟨x3, e3⟩ : ∃ x3, s[i + 3]'hn3 = x3 := ⟨_, rfl⟩
        have b3 : bt s (i + 3) = x3.toNat := by rw [bt_get s _ hn3, e3]
        rw [b3] at fin
        have lx1 := x1.toNat_lt
        by_cases r1 : 128 ≤ x1.toNat
        · by_cases r2 : x1.toNat ≤ 143
          · cases cc2 : contB x2.toNat with
            | true =>
              cases cc3 : contB x3.toNat with
              | true => exact fin _ _ _ _ (dN_four _ _ _ _ _ c4 c5 (by omega) (by omega) (by omega) (contB_iff.1 cc2) (contB_iff.1 cc3)) (by omega) rfl (decF4_ok s i w hi hs x0 e0 x1 hn1 e1 x2 hn2 e2 x3 hn3 e3 c4 c5 qa qb r1 r2 cc2 cc3)
              | false => exact fin _ _ _ _ (dN_four_no _ _ _ _ _ c4 c5 (by omega) (fun h => contB_no.1 cc3 h.2.2.2.2)) rfl rfl (decF4_c3 s i w hi hs x0 e0 x1 hn1 e1 x2 hn2 e2 x3 hn3 e3 c4 c5 qa qb r1 r2 cc2 cc3)
            | false => exact fin _ _ _ _ (dN_four_no _ _ _ _ _ c4 c5 (by omega) (fun h => contB_no.1 cc2 h.2.2.2.1)) rfl rfl (decF4_c2 s i w hi hs x0 e0 x1 hn1 e1 x2 hn2 e2 x3 hn3 e3 c4 c5 qa qb r1 r2 cc2)
          · exact fin _ _ _ _ (dN_four_no _ _ _ _ _ c4 c5 (by omega) (fun h => by have := h.2.2.1; omega)) rfl rfl (decF4_hi s i w hi hs x0 e0 x1 hn1 e1 x2 hn2 e2 x3 hn3 e3 c4 c5 qa qb r1 r2)
        · exact fin _ _ _ _ (dN_four_no _ _ _ _ _ c4 c5 (by omega) (fun h => by have := h.2.1; omega)) rfl rfl (decF4_lo s i w hi hs x0 e0 x1 hn1 e1 x2 hn2 e2 x3 hn3 e3 c4 c5 qa qb r1)
      · exact fin _ _ _ _ (dN_four_no _ _ _ _ _ c4 c5 l1 (fun h => by omega)) rfl rfl (decF4_end s i w hi hs x0 e0 c4 c5 qa qb hn3)
    have hlo : lo4 x0.toNat = 128 := by unfold lo4; rw [if_neg qa]
    have hhi : hi4 x0.toNat = 191 := by unfold hi4; rw [if_neg qb]
    by_cases hn3 : i + 3 < s.size
    · have hn1 : i + 1 < s.size := by omega
      have hn2 : i + 2 < s.size := by omega
      obtain ⟨x1, e1⟩ : ∃ x1, s[i + 1]'hn1 = x1 := ⟨_, rfl⟩
      have b1 : bt s (i + 1) = x1.toNat := by rw [bt_get s _ hn1, e1]
      rw [b1] at fin
      obtain ⟨x2, e2⟩ : ∃ x2, s[i + 2]'hn2 = x2 := ⟨_, rfl⟩
      have b2 : bt s (i + 2) = x2.toNat := by rw [bt_get s _ hn2, e2]
      rw [b2] at fin
      obtain ⟨x3, e3⟩ : ∃ x3, s[i + 3]'hn3 = x3 := ⟨_, rfl⟩
      have b3 : bt s (i + 3) = x3.toNat := by rw [bt_get s _ hn3, e3]
      rw [b3] at fin
      have lx1 := x1.toNat_lt
      by_cases r1 : 128 ≤ x1.toNat
      · by_cases r2 : x1.toNat ≤ 191
        · cases cc2 : contB x2.toNat with
          | true =>
            cases cc3 : contB x3.toNat with
            | true => exact fin _ _ _ _ (dN_four _ _ _ _ _ c4 c5 (by omega) (by omega) (by omega) (contB_iff.1 cc2) (contB_iff.1 cc3)) (by omega) rfl (decFO_ok s i w hi hs x0 e0 x1 hn1 e1 x2 hn2 e2 x3 hn3 e3 c4 c5 qa qb r1 r2 cc2 cc3)
            | false => exact fin _ _ _ _ (dN_four_no _ _ _ _ _ c4 c5 (by omega) (fun h => contB_no.1 cc3 h.2.2.2.2)) rfl rfl (decFO_c3 s i w hi hs x0 e0 x1 hn1 e1 x2 hn2 e2 x3 hn3 e3 c4 c5 qa qb r1 r2 cc2 cc3)
          | false => exact fin _ _ _ _ (dN_four_no _ _ _ _ _ c4 c5 (by omega) (fun h => contB_no.1 cc2 h.2.2.2.1)) rfl rfl (decFO_c2 s i w hi hs x0 e0 x1 hn1 e1 x2 hn2 e2 x3 hn3 e3 c4 c5 qa qb r1 r2 cc2)
        · exact fin _ _ _ _ (dN_four_no _ _ _ _ _ c4 c5 (by omega) (fun h => by have := h.2.2.1; omega)) rfl rfl (decFO_hi s i w hi hs x0 e0 x1 hn1 e1 x2 hn2 e2 x3 hn3 e3 c4 c5 qa qb r1 r2)
      · exact fin _ _ _ _ (dN_four_no _ _ _ _ _ c4 c5 (by omega) (fun h => by have := h.2.1; omega)) rfl rfl (decFO_lo s i w hi hs x0 e0 x1 hn1 e1 x2 hn2 e2 x3 hn3 e3 c4 c5 qa qb r1)
    · exact fin _ _ _ _ (dN_four_no _ _ _ _ _ c4 c5 l1 (fun h => by omega)) rfl rfl (decFO_end s i w hi hs x0 e0 c4 c5 qa qb hn3)
  exact fin _ _ _ _ (dN_high _ _ _ _ _ c5 (by omega)) rfl rfl (dec_high s i w hi hs x0 e0 c5)

end Go.Proofs.YtdlkdojgbiahgaaFmt.Lx
