/- Two digits at a place: run with letters. Conditions: the place lies in the text. -/
import Derived.Test.YtcnallabiffemaaGreatDoorVmW
set_option linter.unusedSimpArgs false
set_option linter.unusedVariables false
namespace Go.Proofs.YtcnallabiffemaaGreatDoor.Vm
open Go
def digs (s : ByteArray) (i : Nat) : Bool := decide (i + 1 < s.size) && decide (48 ≤ bt s i) && decide (bt s i ≤ 57) && decide (48 ≤ bt s (i + 1)) && decide (bt s (i + 1) ≤ 57)
set_option maxHeartbeats 4000000 in
set_option maxRecDepth 100000 in
theorem f30 {m : Nat} {h : AH} {s : ByteArray} {i : Nat} (hm : 10000 ≤ m) (hi : i < s.size) (hs : s.size < 100000) :
    Runs (fun k => cl Tryz.prog (exec Tryz.prog m) false 30 (.c (.s s) (.c (.i .i64 (i : Int)) .e)) h k ⟨⟩) fun v h' => v = .b (digs s i) ∧ h' = h := by
  obtain ⟨m, rfl⟩ : ∃ n, m = n + 100 := ⟨m - 100, by omega⟩
  refine Runs.of_eq (fun k => cl_in Tryz.func30 rfl (by kernel_rfl) Tryz.ntmps30 Tryz.results30 rfl rfl _ _ _ _ _ _) ?_
  simp -dsimp (disch := omega) only [go_sem, ↓reduceIte, Nat.reduceAdd, Nat.reduceSub, Nat.reduceMul, Nat.reduceLeDiff, Nat.reduceLT, Nat.reduceEqDiff, Nat.reduceBEq, beq_self_eq_true]
  refine Runs.brd (fun c1 => ?_) (fun c1 => ?_) <;> simp -dsimp (disch := omega) only [go_sem, ↓reduceIte, Nat.reduceAdd, Nat.reduceSub, Nat.reduceMul, Nat.reduceLeDiff, Nat.reduceLT, Nat.reduceEqDiff, Nat.reduceBEq, beq_self_eq_true, c1]
  · refine Runs.brd (fun c2 => ?_) (fun c2 => ?_) <;> simp -dsimp (disch := omega) only [go_sem, ↓reduceIte, Nat.reduceAdd, Nat.reduceSub, Nat.reduceMul, Nat.reduceLeDiff, Nat.reduceLT, Nat.reduceEqDiff, Nat.reduceBEq, beq_self_eq_true, c1, c2]
    · refine Runs.brd (fun c3 => ?_) (fun c3 => ?_) <;> simp -dsimp (disch := omega) only [go_sem, ↓reduceIte, Nat.reduceAdd, Nat.reduceSub, Nat.reduceMul, Nat.reduceLeDiff, Nat.reduceLT, Nat.reduceEqDiff, Nat.reduceBEq, beq_self_eq_true, c1, c2, c3]
      · refine Runs.brd (fun c4 => ?_) (fun c4 => ?_) <;> simp -dsimp (disch := omega) only [go_sem, ↓reduceIte, Nat.reduceAdd, Nat.reduceSub, Nat.reduceMul, Nat.reduceLeDiff, Nat.reduceLT, Nat.reduceEqDiff, Nat.reduceBEq, beq_self_eq_true, c1, c2, c3, c4]
        · refine Runs.ret ⟨congrArg AV.b (Bool.eq_iff_iff.2 ?_), rfl⟩
          simp only [digs, Bool.and_eq_true, decide_eq_true_eq]
          omega
        · refine Runs.ret ⟨congrArg AV.b (Eq.symm (Bool.eq_false_iff.2 fun e => ?_)), rfl⟩
          simp only [digs, Bool.and_eq_true, decide_eq_true_eq] at e
          omega
      · refine Runs.ret ⟨congrArg AV.b (Eq.symm (Bool.eq_false_iff.2 fun e => ?_)), rfl⟩
        simp only [digs, Bool.and_eq_true, decide_eq_true_eq] at e
        omega
    · refine Runs.ret ⟨congrArg AV.b (Eq.symm (Bool.eq_false_iff.2 fun e => ?_)), rfl⟩
      simp only [digs, Bool.and_eq_true, decide_eq_true_eq] at e
      omega
  · refine Runs.ret ⟨congrArg AV.b (Eq.symm (Bool.eq_false_iff.2 fun e => ?_)), rfl⟩
    simp only [digs, Bool.and_eq_true, decide_eq_true_eq] at e
    omega
end Go.Proofs.YtcnallabiffemaaGreatDoor.Vm
