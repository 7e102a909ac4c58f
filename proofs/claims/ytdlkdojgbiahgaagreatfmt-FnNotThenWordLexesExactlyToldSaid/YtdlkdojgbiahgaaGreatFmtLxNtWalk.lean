/-
  FnNotThenWordLexesExactly returns true for every count and every text. Condition: the tables are laid.
-/
import Derived.Test.YtdlkdojgbiahgaaGreatFmtLxNtLaw
namespace Go.Proofs.YtdlkdojgbiahgaaGreatFmt.Lx
open Go.RowKit Go.Lib

theorem nt_walk (k : Int) (W : ByteArray) (w : World) (hT : Tabs w) : FnT k W w := by
  by_cases h : W.size ≤ 65536
  · by_cases hk : k < 1
    · exact nt_k k W w h (Or.inl hk)
    by_cases hk2 : 65536 < k
    · exact nt_k k W w h (Or.inr ⟨hk, hk2⟩)
    by_cases hok : ∀ i, i < W.size → an8 (bt W i) = true
    · by_cases hd : 48 ≤ bt W 0 ∧ bt W 0 ≤ 57
      · have hp : 0 < W.size := by
          rcases Nat.lt_or_ge 0 W.size with x | x
          · exact x
          · rw [bt_out W 0 x] at hd; omega
        exact nt_digit k W w h hk hk2 hok hp hd.1 hd.2
      · obtain ⟨K, rfl⟩ : ∃ K : Nat, k = (K : Int) := ⟨k.toNat, by omega⟩
        exact nt_in K W w hT h (by omega) (by omega) hok hd
    · have hex : ∃ j, j < W.size ∧ an8 (bt W j) = false := Classical.byContradiction fun hn => hok fun i hi => by
        cases hx : an8 (bt W i) with
        | true => rfl
        | false => exact absurd ⟨i, hi, hx⟩ hn
      obtain ⟨j, ⟨hj, hb⟩, hl⟩ := Go.exists_least hex
      exact nt_bad k W w h hk hk2 j hj hb fun i hi => by
        cases hx : an8 (bt W i) with
        | true => rfl
        | false => have := hl i ⟨by omega, hx⟩; omega
  · exact nt_big k W w h

end Go.Proofs.YtdlkdojgbiahgaaGreatFmt.Lx
