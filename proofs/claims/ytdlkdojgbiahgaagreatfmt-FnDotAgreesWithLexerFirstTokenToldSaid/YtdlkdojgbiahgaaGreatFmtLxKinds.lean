/-
  Contracts of the law's own helpers zzWordKind and zzNegatable: the kind of a word; may it stand behind 'not'?
-/
import Derived.Test.YtdlkdojgbiahgaaGreatFmtLxHelp
namespace Go.Proofs.YtdlkdojgbiahgaaGreatFmt.Lx
open Go.RowKit Go.Lib

theorem wkind_any (W : ByteArray) (dis : Bool) (w : World) : Calls Tryz.prog 10 #[.string W, .bool dis] w fun e w' => e = .returned (.string (wkind W dis)) ∧ w = w' := by
  by_cases q0 : W = (⟨#[105, 110]⟩ : ByteArray)
  · have f0 := lit_yes (l := [105, 110]) q0
    rw [wkind_op W dis (Or.inl q0)]
    clear q0
    go_enter Tryz.func10, Tryz.ntmps10
    go_wp2
    go_ret
    exact ⟨rfl, rfl⟩
  by_cases q1 : W = (⟨#[111, 114]⟩ : ByteArray)
  · have f0 := lit_no (l := [105, 110]) q0
    have f1 := lit_yes (l := [111, 114]) q1
    rw [wkind_op W dis (Or.inr (Or.inl q1))]
    clear q0 q1
    go_enter Tryz.func10, Tryz.ntmps10
    go_wp2
    go_ret
    exact ⟨rfl, rfl⟩
  by_cases q2 : W = (⟨#[97, 110, 100]⟩ : ByteArray)
  · have f0 := lit_no (l := [105, 110]) q0
    have f1 := lit_no (l := [111, 114]) q1
    have f2 := lit_yes (l := [97, 110, 100]) q2
    rw [wkind_op W dis (Or.inr (Or.inr (Or.inl q2)))]
    clear q0 q1 q2
    go_enter Tryz.func10, Tryz.ntmps10
    go_wp2
    go_ret
    exact ⟨rfl, rfl⟩
  by_cases q3 : W = (⟨#[109, 97, 116, 99, 104, 101, 115]⟩ : ByteArray)
  · have f0 := lit_no (l := [105, 110]) q0
    have f1 := lit_no (l := [111, 114]) q1
    have f2 := lit_no (l := [97, 110, 100]) q2
    have f3 := lit_yes (l := [109, 97, 116, 99, 104, 101, 115]) q3
    rw [wkind_op W dis (Or.inr (Or.inr (Or.inr (Or.inl q3))))]
    clear q0 q1 q2 q3
    go_enter Tryz.func10, Tryz.ntmps10
    go_wp2
    go_ret
    exact ⟨rfl, rfl⟩
  by_cases q4 : W = (⟨#[99, 111, 110, 116, 97, 105, 110, 115]⟩ : ByteArray)
  · have f0 := lit_no (l := [105, 110]) q0
    have f1 := lit_no (l := [111, 114]) q1
    have f2 := lit_no (l := [97, 110, 100]) q2
    have f3 := lit_no (l := [109, 97, 116, 99, 104, 101, 115]) q3
    have f4 := lit_yes (l := [99, 111, 110, 116, 97, 105, 110, 115]) q4
    rw [wkind_op W dis (Or.inr (Or.inr (Or.inr (Or.inr (Or.inl q4)))))]
    clear q0 q1 q2 q3 q4
    go_enter Tryz.func10, Tryz.ntmps10
    go_wp2
    go_ret
    exact ⟨rfl, rfl⟩
  by_cases q5 : W = (⟨#[115, 116, 97, 114, 116, 115, 87, 105, 116, 104]⟩ : ByteArray)
  · have f0 := lit_no (l := [105, 110]) q0
    have f1 := lit_no (l := [111, 114]) q1
    have f2 := lit_no (l := [97, 110, 100]) q2
    have f3 := lit_no (l := [109, 97, 116, 99, 104, 101, 115]) q3
    have f4 := lit_no (l := [99, 111, 110, 116, 97, 105, 110, 115]) q4
    have f5 := lit_yes (l := [115, 116, 97, 114, 116, 115, 87, 105, 116, 104]) q5
    rw [wkind_op W dis (Or.inr (Or.inr (Or.inr (Or.inr (Or.inr (Or.inl q5))))))]
    clear q0 q1 q2 q3 q4 q5
    go_enter Tryz.func10, Tryz.ntmps10
    go_wp2
    go_ret
    exact ⟨rfl, rfl⟩
  by_cases q6 : W = (⟨#[101, 110, 100, 115, 87, 105, 116, 104]⟩ : ByteArray)
  · have f0 := lit_no (l := [105, 110]) q0
    have f1 := lit_no (l := [111, 114]) q1
    have f2 := lit_no (l := [97, 110, 100]) q2
    have f3 := lit_no (l := [109, 97, 116, 99, 104, 101, 115]) q3
    have f4 := lit_no (l := [99, 111, 110, 116, 97, 105, 110, 115]) q4
    have f5 := lit_no (l := [115, 116, 97, 114, 116, 115, 87, 105, 116, 104]) q5
    have f6 := lit_yes (l := [101, 110, 100, 115, 87, 105, 116, 104]) q6
    rw [wkind_op W dis (Or.inr (Or.inr (Or.inr (Or.inr (Or.inr (Or.inr (Or.inl q6)))))))]
    clear q0 q1 q2 q3 q4 q5 q6
    go_enter Tryz.func10, Tryz.ntmps10
    go_wp2
    go_ret
    exact ⟨rfl, rfl⟩
  by_cases q7 : W = (⟨#[108, 101, 116]⟩ : ByteArray)
  · have f0 := lit_no (l := [105, 110]) q0
    have f1 := lit_no (l := [111, 114]) q1
    have f2 := lit_no (l := [97, 110, 100]) q2
    have f3 := lit_no (l := [109, 97, 116, 99, 104, 101, 115]) q3
    have f4 := lit_no (l := [99, 111, 110, 116, 97, 105, 110, 115]) q4
    have f5 := lit_no (l := [115, 116, 97, 114, 116, 115, 87, 105, 116, 104]) q5
    have f6 := lit_no (l := [101, 110, 100, 115, 87, 105, 116, 104]) q6
    have f7 := lit_yes (l := [108, 101, 116]) q7
    rw [wkind_op W dis (Or.inr (Or.inr (Or.inr (Or.inr (Or.inr (Or.inr (Or.inr (q7))))))))]
    clear q0 q1 q2 q3 q4 q5 q6 q7
    go_enter Tryz.func10, Tryz.ntmps10
    go_wp2
    go_ret
    exact ⟨rfl, rfl⟩
  by_cases q8 : W = (⟨#[105, 102]⟩ : ByteArray)
  · have f0 := lit_no (l := [105, 110]) q0
    have f1 := lit_no (l := [111, 114]) q1
    have f2 := lit_no (l := [97, 110, 100]) q2
    have f3 := lit_no (l := [109, 97, 116, 99, 104, 101, 115]) q3
    have f4 := lit_no (l := [99, 111, 110, 116, 97, 105, 110, 115]) q4
    have f5 := lit_no (l := [115, 116, 97, 114, 116, 115, 87, 105, 116, 104]) q5
    have f6 := lit_no (l := [101, 110, 100, 115, 87, 105, 116, 104]) q6
    have f7 := lit_no (l := [108, 101, 116]) q7
    have f8 := lit_yes (l := [105, 102]) q8
    have HV : wkind W dis = (if dis then kId else kOp) := by rw [q8]; exact wkind_if dis
    rw [HV]
    clear q0 q1 q2 q3 q4 q5 q6 q7 q8 HV
    cases dis with
    | true =>
      go_enter Tryz.func10, Tryz.ntmps10
      go_wp2
      go_ret
      exact ⟨rfl, rfl⟩
    | false =>
      go_enter Tryz.func10, Tryz.ntmps10
      go_wp2
      go_ret
      exact ⟨rfl, rfl⟩
  by_cases q9 : W = (⟨#[101, 108, 115, 101]⟩ : ByteArray)
  · have f0 := lit_no (l := [105, 110]) q0
    have f1 := lit_no (l := [111, 114]) q1
    have f2 := lit_no (l := [97, 110, 100]) q2
    have f3 := lit_no (l := [109, 97, 116, 99, 104, 101, 115]) q3
    have f4 := lit_no (l := [99, 111, 110, 116, 97, 105, 110, 115]) q4
    have f5 := lit_no (l := [115, 116, 97, 114, 116, 115, 87, 105, 116, 104]) q5
    have f6 := lit_no (l := [101, 110, 100, 115, 87, 105, 116, 104]) q6
    have f7 := lit_no (l := [108, 101, 116]) q7
    have f8 := lit_no (l := [105, 102]) q8
    have f9 := lit_yes (l := [101, 108, 115, 101]) q9
    have HV : wkind W dis = (if dis then kId else kOp) := by rw [q9]; exact wkind_else dis
    rw [HV]
    clear q0 q1 q2 q3 q4 q5 q6 q7 q8 q9 HV
    cases dis with
    | true =>
      go_enter Tryz.func10, Tryz.ntmps10
      go_wp2
      go_ret
      exact ⟨rfl, rfl⟩
    | false =>
      go_enter Tryz.func10, Tryz.ntmps10
      go_wp2
      go_ret
      exact ⟨rfl, rfl⟩
  have f0 := lit_no (l := [105, 110]) q0
  have f1 := lit_no (l := [111, 114]) q1
  have f2 := lit_no (l := [97, 110, 100]) q2
  have f3 := lit_no (l := [109, 97, 116, 99, 104, 101, 115]) q3
  have f4 := lit_no (l := [99, 111, 110, 116, 97, 105, 110, 115]) q4
  have f5 := lit_no (l := [115, 116, 97, 114, 116, 115, 87, 105, 116, 104]) q5
  have f6 := lit_no (l := [101, 110, 100, 115, 87, 105, 116, 104]) q6
  have f7 := lit_no (l := [108, 101, 116]) q7
  have f8 := lit_no (l := [105, 102]) q8
  have f9 := lit_no (l := [101, 108, 115, 101]) q9
  rw [wkind_id W dis q0 q1 q2 q3 q4 q5 q6 q7 q8 q9]
  clear q0 q1 q2 q3 q4 q5 q6 q7 q8 q9
  go_enter Tryz.func10, Tryz.ntmps10
  go_wp2
  go_ret
  exact ⟨rfl, rfl⟩

/-- The five words that may stand behind "not". -/
def isNeg (W : ByteArray) : Bool := decide (W = (⟨#[105, 110]⟩ : ByteArray) ∨ W = (⟨#[109, 97, 116, 99, 104, 101, 115]⟩ : ByteArray) ∨ W = (⟨#[99, 111, 110, 116, 97, 105, 110, 115]⟩ : ByteArray) ∨ W = (⟨#[115, 116, 97, 114, 116, 115, 87, 105, 116, 104]⟩ : ByteArray) ∨ W = (⟨#[101, 110, 100, 115, 87, 105, 116, 104]⟩ : ByteArray))
theorem neg_any (W : ByteArray) (w : World) : Calls Tryz.prog 11 #[.string W] w fun e w' => e = .returned (.bool (isNeg W)) ∧ w = w' := by
  by_cases q0 : W = (⟨#[105, 110]⟩ : ByteArray)
  · have f0 := lit_yes (l := [105, 110]) q0
    have e : isNeg W = true := decide_eq_true (Or.inl q0)
    rw [e]
    clear e q0
    go_enter Tryz.func11, Tryz.ntmps11
    go_wp2
    go_ret
    exact ⟨rfl, rfl⟩
  by_cases q1 : W = (⟨#[109, 97, 116, 99, 104, 101, 115]⟩ : ByteArray)
  · have f0 := lit_no (l := [105, 110]) q0
    have f1 := lit_yes (l := [109, 97, 116, 99, 104, 101, 115]) q1
    have e : isNeg W = true := decide_eq_true (Or.inr (Or.inl q1))
    rw [e]
    clear e q0 q1
    go_enter Tryz.func11, Tryz.ntmps11
    go_wp2
    go_ret
    exact ⟨rfl, rfl⟩
  by_cases q2 : W = (⟨#[99, 111, 110, 116, 97, 105, 110, 115]⟩ : ByteArray)
  · have f0 := lit_no (l := [105, 110]) q0
    have f1 := lit_no (l := [109, 97, 116, 99, 104, 101, 115]) q1
    have f2 := lit_yes (l := [99, 111, 110, 116, 97, 105, 110, 115]) q2
    have e : isNeg W = true := decide_eq_true (Or.inr (Or.inr (Or.inl q2)))
    rw [e]
    clear e q0 q1 q2
    go_enter Tryz.func11, Tryz.ntmps11
    go_wp2
    go_ret
    exact ⟨rfl, rfl⟩
  by_cases q3 : W = (⟨#[115, 116, 97, 114, 116, 115, 87, 105, 116, 104]⟩ : ByteArray)
  · have f0 := lit_no (l := [105, 110]) q0
    have f1 := lit_no (l := [109, 97, 116, 99, 104, 101, 115]) q1
    have f2 := lit_no (l := [99, 111, 110, 116, 97, 105, 110, 115]) q2
    have f3 := lit_yes (l := [115, 116, 97, 114, 116, 115, 87, 105, 116, 104]) q3
    have e : isNeg W = true := decide_eq_true (Or.inr (Or.inr (Or.inr (Or.inl q3))))
    rw [e]
    clear e q0 q1 q2 q3
    go_enter Tryz.func11, Tryz.ntmps11
    go_wp2
    go_ret
    exact ⟨rfl, rfl⟩
  by_cases q4 : W = (⟨#[101, 110, 100, 115, 87, 105, 116, 104]⟩ : ByteArray)
  · have f0 := lit_no (l := [105, 110]) q0
    have f1 := lit_no (l := [109, 97, 116, 99, 104, 101, 115]) q1
    have f2 := lit_no (l := [99, 111, 110, 116, 97, 105, 110, 115]) q2
    have f3 := lit_no (l := [115, 116, 97, 114, 116, 115, 87, 105, 116, 104]) q3
    have f4 := lit_yes (l := [101, 110, 100, 115, 87, 105, 116, 104]) q4
    have e : isNeg W = true := decide_eq_true (Or.inr (Or.inr (Or.inr (Or.inr (q4)))))
    rw [e]
    clear e q0 q1 q2 q3 q4
    go_enter Tryz.func11, Tryz.ntmps11
    go_wp2
    go_ret
    exact ⟨rfl, rfl⟩
  have f0 := lit_no (l := [105, 110]) q0
  have f1 := lit_no (l := [109, 97, 116, 99, 104, 101, 115]) q1
  have f2 := lit_no (l := [99, 111, 110, 116, 97, 105, 110, 115]) q2
  have f3 := lit_no (l := [115, 116, 97, 114, 116, 115, 87, 105, 116, 104]) q3
  have f4 := lit_no (l := [101, 110, 100, 115, 87, 105, 116, 104]) q4
  have e : isNeg W = false := decide_eq_false (by simp only [q0, q1, q2, q3, q4, or_self, not_false_eq_true])
  rw [e]
  clear e q0 q1 q2 q3 q4
  go_enter Tryz.func11, Tryz.ntmps11
  go_wp2
  go_ret
  exact ⟨rfl, rfl⟩

end Go.Proofs.YtdlkdojgbiahgaaGreatFmt.Lx
