/- The values of a character in a set of triples: run with letters. Conditions: one of the three modes. -/
import Derived.Test.YtcnallabiffemaaGreatDoorVmXb
set_option linter.unusedSimpArgs false
set_option linter.unusedVariables false
namespace Go.Proofs.YtcnallabiffemaaGreatDoor.Vm
open Go
def lit4 : ByteArray := ⟨#[13, 42, 62, 32]⟩
def lit27 : ByteArray := ⟨#[33, 34, 35, 36, 37, 38, 39, 40, 41, 42, 43, 44, 45, 46, 47, 58, 59, 60, 61, 62, 63, 64, 91, 92, 93, 94, 95]⟩
/-- The character of a value without a shift. -/
def bas (mode v : Nat) : Option Nat :=
  if mode = 3 ∧ v < 4 then some (bt lit4 v) else if mode ≠ 3 ∧ v < 3 then none else if v = 3 then some 32 else if v < 14 then some (48 + v - 4)
  else if v < 40 then some (if mode = 2 then 97 + v - 14 else 65 + v - 14) else none
/-- The character of a value behind a shift. -/
def shf (mode set v : Nat) : Option Nat :=
  if set = 1 then (if v < 32 then some v else none) else if set = 2 ∧ v < 27 then some (bt lit27 v)
  else if set = 3 ∧ v < 32 then some (if mode = 2 ∧ 97 ≤ 96 + v ∧ 96 + v ≤ 122 then 96 + v - 32 else 96 + v) else none
set_option maxHeartbeats 4000000 in
set_option maxRecDepth 100000 in
theorem f53 {m mode v : Nat} {h : AH} (hm : 10000 ≤ m) (h1 : mode < 6) (h2 : v < 40) :
    Runs (fun k => cl Tryz.prog (exec Tryz.prog m) false 53 (.c (.i .i64 (mode : Int)) (.c (.i .i64 (v : Int)) .e)) h k ⟨⟩) fun r h' => ∃ (a : Nat) (b : Bool), r = .tu (.c (.i .u8 (a : Int)) (.c (.b b) .e)) ∧ h' = h ∧ (b = true → bas mode v = some a) := by
  obtain ⟨m, rfl⟩ : ∃ n, m = n + 100 := ⟨m - 100, by omega⟩
  refine Runs.of_eq (fun k => cl_in Tryz.func53 rfl (by kernel_rfl) Tryz.ntmps53 Tryz.results53 rfl rfl _ _ _ _ _ _) ?_
  simp -dsimp (disch := omega) only [go_sem, ↓reduceIte, Nat.reduceAdd, Nat.reduceSub, Nat.reduceMul, Nat.reduceLeDiff, Nat.reduceLT, Nat.reduceEqDiff, Nat.reduceBEq, Int.reduceEq, Int.reduceLT, Int.reduceLE, Int.reduceNeg, Int.reduceAdd, Int.reduceSub, Int.reduceMul, beq_self_eq_true]
  have hz : (⟨#[13, 42, 62, 32]⟩ : ByteArray).size = 4 := rfl
  refine Runs.brd (fun c1 => ?_) (fun c1 => ?_) <;> simp -dsimp (disch := omega) only [go_sem, ↓reduceIte, Nat.reduceAdd, Nat.reduceSub, Nat.reduceMul, Nat.reduceLeDiff, Nat.reduceLT, Nat.reduceEqDiff, Nat.reduceBEq, Int.reduceEq, Int.reduceLT, Int.reduceLE, Int.reduceNeg, Int.reduceAdd, Int.reduceSub, Int.reduceMul, beq_self_eq_true]
  · refine Runs.brd (fun c2 => ?_) (fun c2 => ?_) <;> simp -dsimp (disch := omega) only [go_sem, ↓reduceIte, Nat.reduceAdd, Nat.reduceSub, Nat.reduceMul, Nat.reduceLeDiff, Nat.reduceLT, Nat.reduceEqDiff, Nat.reduceBEq, Int.reduceEq, Int.reduceLT, Int.reduceLE, Int.reduceNeg, Int.reduceAdd, Int.reduceSub, Int.reduceMul, beq_self_eq_true]
    · exact Runs.ret ⟨_, _, rfl, rfl, fun _ => by unfold bas; rw [if_pos (by omega)]; rfl⟩
    · refine Runs.brd (fun c3 => ?_) (fun c3 => ?_) <;> simp -dsimp (disch := omega) only [go_sem, ↓reduceIte, Nat.reduceAdd, Nat.reduceSub, Nat.reduceMul, Nat.reduceLeDiff, Nat.reduceLT, Nat.reduceEqDiff, Nat.reduceBEq, Int.reduceEq, Int.reduceLT, Int.reduceLE, Int.reduceNeg, Int.reduceAdd, Int.reduceSub, Int.reduceMul, beq_self_eq_true]
      · exact Runs.ret ⟨32, _, rfl, rfl, fun _ => by unfold bas; rw [if_neg (by omega), if_neg (by omega), if_pos (by omega)]⟩
      · refine Runs.brd (fun c4 => ?_) (fun c4 => ?_) <;> simp -dsimp (disch := omega) only [go_sem, ↓reduceIte, Nat.reduceAdd, Nat.reduceSub, Nat.reduceMul, Nat.reduceLeDiff, Nat.reduceLT, Nat.reduceEqDiff, Nat.reduceBEq, Int.reduceEq, Int.reduceLT, Int.reduceLE, Int.reduceNeg, Int.reduceAdd, Int.reduceSub, Int.reduceMul, beq_self_eq_true]
        · exact Runs.ret ⟨_, _, rfl, rfl, fun _ => by unfold bas; rw [if_neg (by omega), if_neg (by omega), if_neg (by omega), if_pos (by omega)]⟩
        · refine Runs.brd (fun c5 => ?_) (fun c5 => ?_) <;> simp -dsimp (disch := omega) only [go_sem, ↓reduceIte, Nat.reduceAdd, Nat.reduceSub, Nat.reduceMul, Nat.reduceLeDiff, Nat.reduceLT, Nat.reduceEqDiff, Nat.reduceBEq, Int.reduceEq, Int.reduceLT, Int.reduceLE, Int.reduceNeg, Int.reduceAdd, Int.reduceSub, Int.reduceMul, beq_self_eq_true]
          · exact Runs.ret ⟨_, _, rfl, rfl, fun _ => by unfold bas; rw [if_neg (by omega), if_neg (by omega), if_neg (by omega), if_neg (by omega), if_pos (by omega), if_pos (by omega)]⟩
          · exact Runs.ret ⟨_, _, rfl, rfl, fun _ => by unfold bas; rw [if_neg (by omega), if_neg (by omega), if_neg (by omega), if_neg (by omega), if_pos (by omega), if_neg (by omega)]⟩
  · refine Runs.brd (fun c2 => ?_) (fun c2 => ?_) <;> simp -dsimp (disch := omega) only [go_sem, ↓reduceIte, Nat.reduceAdd, Nat.reduceSub, Nat.reduceMul, Nat.reduceLeDiff, Nat.reduceLT, Nat.reduceEqDiff, Nat.reduceBEq, Int.reduceEq, Int.reduceLT, Int.reduceLE, Int.reduceNeg, Int.reduceAdd, Int.reduceSub, Int.reduceMul, beq_self_eq_true]
    · exact Runs.ret ⟨0, _, rfl, rfl, fun e => by cases e⟩
    · refine Runs.brd (fun c3 => ?_) (fun c3 => ?_) <;> simp -dsimp (disch := omega) only [go_sem, ↓reduceIte, Nat.reduceAdd, Nat.reduceSub, Nat.reduceMul, Nat.reduceLeDiff, Nat.reduceLT, Nat.reduceEqDiff, Nat.reduceBEq, Int.reduceEq, Int.reduceLT, Int.reduceLE, Int.reduceNeg, Int.reduceAdd, Int.reduceSub, Int.reduceMul, beq_self_eq_true]
      · exact Runs.ret ⟨32, _, rfl, rfl, fun _ => by unfold bas; rw [if_neg (by omega), if_neg (by omega), if_pos (by omega)]⟩
      · refine Runs.brd (fun c4 => ?_) (fun c4 => ?_) <;> simp -dsimp (disch := omega) only [go_sem, ↓reduceIte, Nat.reduceAdd, Nat.reduceSub, Nat.reduceMul, Nat.reduceLeDiff, Nat.reduceLT, Nat.reduceEqDiff, Nat.reduceBEq, Int.reduceEq, Int.reduceLT, Int.reduceLE, Int.reduceNeg, Int.reduceAdd, Int.reduceSub, Int.reduceMul, beq_self_eq_true]
        · exact Runs.ret ⟨_, _, rfl, rfl, fun _ => by unfold bas; rw [if_neg (by omega), if_neg (by omega), if_neg (by omega), if_pos (by omega)]⟩
        · refine Runs.brd (fun c5 => ?_) (fun c5 => ?_) <;> simp -dsimp (disch := omega) only [go_sem, ↓reduceIte, Nat.reduceAdd, Nat.reduceSub, Nat.reduceMul, Nat.reduceLeDiff, Nat.reduceLT, Nat.reduceEqDiff, Nat.reduceBEq, Int.reduceEq, Int.reduceLT, Int.reduceLE, Int.reduceNeg, Int.reduceAdd, Int.reduceSub, Int.reduceMul, beq_self_eq_true]
          · exact Runs.ret ⟨_, _, rfl, rfl, fun _ => by unfold bas; rw [if_neg (by omega), if_neg (by omega), if_neg (by omega), if_neg (by omega), if_pos (by omega), if_pos (by omega)]⟩
          · exact Runs.ret ⟨_, _, rfl, rfl, fun _ => by unfold bas; rw [if_neg (by omega), if_neg (by omega), if_neg (by omega), if_neg (by omega), if_pos (by omega), if_neg (by omega)]⟩
set_option maxHeartbeats 4000000 in
set_option maxRecDepth 100000 in
theorem f54 {m mode set v : Nat} {h : AH} (hm : 10000 ≤ m) (h1 : mode < 6) (h2 : v < 32) (h3 : set < 6) :
    Runs (fun k => cl Tryz.prog (exec Tryz.prog m) false 54 (.c (.i .i64 (mode : Int)) (.c (.i .i64 (set : Int)) (.c (.i .i64 (v : Int)) .e))) h k ⟨⟩) fun r h' => ∃ (a : Nat) (b : Bool), r = .tu (.c (.i .u8 (a : Int)) (.c (.b b) .e)) ∧ h' = h ∧ (b = true → shf mode set v = some a) := by
  obtain ⟨m, rfl⟩ : ∃ n, m = n + 100 := ⟨m - 100, by omega⟩
  refine Runs.of_eq (fun k => cl_in Tryz.func54 rfl (by kernel_rfl) Tryz.ntmps54 Tryz.results54 rfl rfl _ _ _ _ _ _) ?_
  have hz : (⟨#[33, 34, 35, 36, 37, 38, 39, 40, 41, 42, 43, 44, 45, 46, 47, 58, 59, 60, 61, 62, 63, 64, 91, 92, 93, 94, 95]⟩ : ByteArray).size = 27 := rfl
  simp -dsimp (disch := omega) only [go_sem, ↓reduceIte, Nat.reduceAdd, Nat.reduceSub, Nat.reduceMul, Nat.reduceLeDiff, Nat.reduceLT, Nat.reduceEqDiff, Nat.reduceBEq, Int.reduceEq, Int.reduceLT, Int.reduceLE, Int.reduceNeg, Int.reduceAdd, Int.reduceSub, Int.reduceMul, beq_self_eq_true]
  refine Runs.brd (fun c1 => ?_) (fun c1 => ?_) <;> simp -dsimp (disch := omega) only [go_sem, ↓reduceIte, Nat.reduceAdd, Nat.reduceSub, Nat.reduceMul, Nat.reduceLeDiff, Nat.reduceLT, Nat.reduceEqDiff, Nat.reduceBEq, Int.reduceEq, Int.reduceLT, Int.reduceLE, Int.reduceNeg, Int.reduceAdd, Int.reduceSub, Int.reduceMul, beq_self_eq_true, c1]
  · exact Runs.ret ⟨_, _, rfl, rfl, fun _ => by unfold shf; rw [if_pos (by omega), if_pos (by omega)]⟩
  · by_cases c2 : (set : Int) = 2
    · simp -dsimp (disch := omega) only [go_sem, ↓reduceIte, Nat.reduceAdd, Nat.reduceSub, Nat.reduceMul, Nat.reduceLeDiff, Nat.reduceLT, Nat.reduceEqDiff, Nat.reduceBEq, Int.reduceEq, Int.reduceLT, Int.reduceLE, Int.reduceNeg, Int.reduceAdd, Int.reduceSub, Int.reduceMul, beq_self_eq_true, c2]
      refine Runs.brd (fun c3 => ?_) (fun c3 => ?_) <;> simp -dsimp (disch := omega) only [go_sem, ↓reduceIte, Nat.reduceAdd, Nat.reduceSub, Nat.reduceMul, Nat.reduceLeDiff, Nat.reduceLT, Nat.reduceEqDiff, Nat.reduceBEq, Int.reduceEq, Int.reduceLT, Int.reduceLE, Int.reduceNeg, Int.reduceAdd, Int.reduceSub, Int.reduceMul, beq_self_eq_true, c2]
      · exact Runs.ret ⟨_, _, rfl, rfl, fun _ => by unfold shf; rw [if_neg (by omega), if_pos (by omega)]; rfl⟩
      · exact Runs.ret ⟨0, _, rfl, rfl, fun e => by cases e⟩
    · by_cases c3 : (set : Int) = 3
      · have c4 : (v : Int) < 32 := by omega
        simp -dsimp (disch := omega) only [go_sem, ↓reduceIte, Nat.reduceAdd, Nat.reduceSub, Nat.reduceMul, Nat.reduceLeDiff, Nat.reduceLT, Nat.reduceEqDiff, Nat.reduceBEq, Int.reduceEq, Int.reduceLT, Int.reduceLE, Int.reduceNeg, Int.reduceAdd, Int.reduceSub, Int.reduceMul, beq_self_eq_true, c2, c3, c4]
        by_cases c5 : (mode : Int) = 2
        · simp -dsimp (disch := omega) only [go_sem, ↓reduceIte, Nat.reduceAdd, Nat.reduceSub, Nat.reduceMul, Nat.reduceLeDiff, Nat.reduceLT, Nat.reduceEqDiff, Nat.reduceBEq, Int.reduceEq, Int.reduceLT, Int.reduceLE, Int.reduceNeg, Int.reduceAdd, Int.reduceSub, Int.reduceMul, beq_self_eq_true, c5]
          refine Runs.brd (fun c6 => ?_) (fun c6 => ?_) <;> simp -dsimp (disch := omega) only [go_sem, ↓reduceIte, Nat.reduceAdd, Nat.reduceSub, Nat.reduceMul, Nat.reduceLeDiff, Nat.reduceLT, Nat.reduceEqDiff, Nat.reduceBEq, Int.reduceEq, Int.reduceLT, Int.reduceLE, Int.reduceNeg, Int.reduceAdd, Int.reduceSub, Int.reduceMul, beq_self_eq_true, c5, c6]
          · refine Runs.brd (fun c7 => ?_) (fun c7 => ?_) <;> simp -dsimp (disch := omega) only [go_sem, ↓reduceIte, Nat.reduceAdd, Nat.reduceSub, Nat.reduceMul, Nat.reduceLeDiff, Nat.reduceLT, Nat.reduceEqDiff, Nat.reduceBEq, Int.reduceEq, Int.reduceLT, Int.reduceLE, Int.reduceNeg, Int.reduceAdd, Int.reduceSub, Int.reduceMul, beq_self_eq_true, c5, c6, c7]
            · exact Runs.ret ⟨_, _, rfl, rfl, fun _ => by unfold shf; rw [if_neg (by omega), if_neg (by omega), if_pos (by omega), if_pos (by omega)]⟩
            · exact Runs.ret ⟨_, _, rfl, rfl, fun _ => by unfold shf; rw [if_neg (by omega), if_neg (by omega), if_pos (by omega), if_neg (by omega)]⟩
          · exact Runs.ret ⟨_, _, rfl, rfl, fun _ => by unfold shf; rw [if_neg (by omega), if_neg (by omega), if_pos (by omega), if_neg (by omega)]⟩
        · simp -dsimp (disch := omega) only [go_sem, ↓reduceIte, Nat.reduceAdd, Nat.reduceSub, Nat.reduceMul, Nat.reduceLeDiff, Nat.reduceLT, Nat.reduceEqDiff, Nat.reduceBEq, Int.reduceEq, Int.reduceLT, Int.reduceLE, Int.reduceNeg, Int.reduceAdd, Int.reduceSub, Int.reduceMul, beq_self_eq_true, c5]
          exact Runs.ret ⟨_, _, rfl, rfl, fun _ => by unfold shf; rw [if_neg (by omega), if_neg (by omega), if_pos (by omega), if_neg (by omega)]⟩
      · simp -dsimp (disch := omega) only [go_sem, ↓reduceIte, Nat.reduceAdd, Nat.reduceSub, Nat.reduceMul, Nat.reduceLeDiff, Nat.reduceLT, Nat.reduceEqDiff, Nat.reduceBEq, Int.reduceEq, Int.reduceLT, Int.reduceLE, Int.reduceNeg, Int.reduceAdd, Int.reduceSub, Int.reduceMul, beq_self_eq_true, c2, c3]
        exact Runs.ret ⟨0, _, rfl, rfl, fun e => by cases e⟩
end Go.Proofs.YtcnallabiffemaaGreatDoor.Vm
