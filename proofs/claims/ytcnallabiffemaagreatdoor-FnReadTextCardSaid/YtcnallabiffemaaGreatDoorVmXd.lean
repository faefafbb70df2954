/- The values of a character: the search, run with letters. Conditions: one of the modes, a byte. -/
import Derived.Test.YtcnallabiffemaaGreatDoorVmXc
set_option linter.unusedSimpArgs false
set_option linter.unusedVariables false
namespace Go.Proofs.YtcnallabiffemaaGreatDoor.Vm
open Go
/-- Values that stand for a character. -/
def Vals (mode c : Nat) (l : List Nat) : Prop :=
  (∃ v, l = [v] ∧ v < 40 ∧ bas mode v = some c) ∨ (∃ set v, l = [set - 1, v] ∧ 1 ≤ set ∧ set ≤ 3 ∧ v < 32 ∧ mode ≠ 3 ∧ shf mode set v = some c)
def Found (mode c : Nat) (h : AH) (w : AV) (h' : AH) : Prop := ∃ l, SlN .i64 3 h.next h' w l ∧ Same h.next h h' ∧ Vals mode c l ∧ w ≠ .ns
set_option maxHeartbeats 4000000 in
set_option maxRecDepth 100000 in
theorem f29 {m mode c : Nat} {h : AH} (hm : 14000 ≤ m) (h1 : mode < 6) (h2 : c < 256) :
    Runs (fun k => cl Tryz.prog (exec Tryz.prog m) false 29 (.c (.i .i64 (mode : Int)) (.c (.i .u8 (c : Int)) .e)) h k ⟨⟩) fun r h' => (r = .ns ∧ h' = h) ∨ Found mode c h r h' := by
  obtain ⟨m, rfl⟩ : ∃ n, m = n + 100 := ⟨m - 100, by omega⟩
  refine Runs.of_eq (fun k => cl_in Tryz.func29 rfl (by kernel_rfl) Tryz.ntmps29 Tryz.results29 rfl rfl _ _ _ _ _ _) ?_
  simp -dsimp (disch := omega) only [go_sem, ↓reduceIte, Nat.reduceAdd, Nat.reduceSub, Nat.reduceMul, Nat.reduceLeDiff, Nat.reduceLT, Nat.reduceEqDiff, Nat.reduceBEq, Int.reduceEq, Int.reduceLT, Int.reduceLE, Int.reduceNeg, Int.reduceAdd, Int.reduceSub, Int.reduceMul, beq_self_eq_true]
  refine Runs.loop (loop_rule 12000 (fun i rg h' => ∃ p, p + i = 40 ∧ h' = h ∧ T.get rg 0 = some (.i .i64 (mode : Int)) ∧ T.get rg 1 = some (.i .u8 (c : Int)) ∧ T.get rg 12 = some (.i .i64 (p : Int)))
    (Q := fun e rg h' => (e = .exit 0 ∧ h' = h ∧ T.get rg 0 = some (.i .i64 (mode : Int)) ∧ T.get rg 1 = some (.i .u8 (c : Int))) ∨ (e = .ret ∧ ∃ w, T.get rg 4 = some w ∧ Found mode c h w h')) ?_ 40 _ _ _ (by omega) ⟨0, by omega, rfl, (by simp only [get_put, ↓reduceIte, Nat.reduceEqDiff] <;> first | assumption | rfl), (by simp only [get_put, ↓reduceIte, Nat.reduceEqDiff] <;> first | assumption | rfl), (by simp only [get_put, ↓reduceIte, Nat.reduceEqDiff] <;> first | assumption | rfl)⟩) ?_
  · rintro m i rg h' hm ⟨p, pi, rfl, r0, r1, r12⟩
    obtain ⟨m, rfl⟩ : ∃ n, m = n + 100 := ⟨m - 100, by omega⟩
    simp -dsimp (disch := omega) only [go_sem, ↓reduceIte, Nat.reduceAdd, Nat.reduceSub, Nat.reduceMul, Nat.reduceLeDiff, Nat.reduceLT, Nat.reduceEqDiff, Nat.reduceBEq, Int.reduceEq, Int.reduceLT, Int.reduceLE, Int.reduceNeg, Int.reduceAdd, Int.reduceSub, Int.reduceMul, beq_self_eq_true, gt_of r0, gt_of r1, gt_of r12]
    refine RunsC.brd (fun c1 => ?_) (fun c1 => ?_) <;> simp -dsimp (disch := omega) only [go_sem, ↓reduceIte, Nat.reduceAdd, Nat.reduceSub, Nat.reduceMul, Nat.reduceLeDiff, Nat.reduceLT, Nat.reduceEqDiff, Nat.reduceBEq, Int.reduceEq, Int.reduceLT, Int.reduceLE, Int.reduceNeg, Int.reduceAdd, Int.reduceSub, Int.reduceMul, beq_self_eq_true, gt_of r0, gt_of r1, gt_of r12]
    · refine RunsC.bind (f53 (by omega) h1 (by omega)) ?_
      rintro _ h' ⟨a, b, rfl, rfl, hb⟩
      simp -dsimp (disch := omega) only [go_sem, ↓reduceIte, Nat.reduceAdd, Nat.reduceSub, Nat.reduceMul, Nat.reduceLeDiff, Nat.reduceLT, Nat.reduceEqDiff, Nat.reduceBEq, Int.reduceEq, Int.reduceLT, Int.reduceLE, Int.reduceNeg, Int.reduceAdd, Int.reduceSub, Int.reduceMul, beq_self_eq_true, gt_of r0, gt_of r1, gt_of r12]
      refine RunsC.br (fun c2 => ?_) (fun c2 => ?_)
      · subst c2
        simp -dsimp (disch := omega) only [go_sem, ↓reduceIte, Nat.reduceAdd, Nat.reduceSub, Nat.reduceMul, Nat.reduceLeDiff, Nat.reduceLT, Nat.reduceEqDiff, Nat.reduceBEq, Int.reduceEq, Int.reduceLT, Int.reduceLE, Int.reduceNeg, Int.reduceAdd, Int.reduceSub, Int.reduceMul, beq_self_eq_true, gt_of r0, gt_of r1, gt_of r12]
        refine RunsC.brd (fun c3 => ?_) (fun c3 => ?_) <;> simp -dsimp (disch := omega) only [go_sem, ↓reduceIte, Nat.reduceAdd, Nat.reduceSub, Nat.reduceMul, Nat.reduceLeDiff, Nat.reduceLT, Nat.reduceEqDiff, Nat.reduceBEq, Int.reduceEq, Int.reduceLT, Int.reduceLE, Int.reduceNeg, Int.reduceAdd, Int.reduceSub, Int.reduceMul, beq_self_eq_true, gt_of r0, gt_of r1, gt_of r12]
        · obtain rfl : a = c := by omega
          exact RunsC.back (.inr ⟨rfl, _, (by simp only [get_put, ↓reduceIte, Nat.reduceEqDiff] <;> first | assumption | rfl), [p], lit1i _ _ _, Same.new _ _ _, .inl ⟨p, rfl, by omega, hb rfl⟩, by simp⟩)
        · exact RunsC.again (40 - (p + 1)) (by omega) ⟨p + 1, by omega, rfl, (by simp only [get_put, ↓reduceIte, Nat.reduceEqDiff] <;> first | assumption | rfl), (by simp only [get_put, ↓reduceIte, Nat.reduceEqDiff] <;> first | assumption | rfl), (by simp only [get_put, ↓reduceIte, Nat.reduceEqDiff] <;> first | assumption | rfl)⟩
      · subst c2
        simp -dsimp (disch := omega) only [go_sem, ↓reduceIte, Nat.reduceAdd, Nat.reduceSub, Nat.reduceMul, Nat.reduceLeDiff, Nat.reduceLT, Nat.reduceEqDiff, Nat.reduceBEq, Int.reduceEq, Int.reduceLT, Int.reduceLE, Int.reduceNeg, Int.reduceAdd, Int.reduceSub, Int.reduceMul, beq_self_eq_true, gt_of r0, gt_of r1, gt_of r12]
        exact RunsC.again (40 - (p + 1)) (by omega) ⟨p + 1, by omega, rfl, (by simp only [get_put, ↓reduceIte, Nat.reduceEqDiff] <;> first | assumption | rfl), (by simp only [get_put, ↓reduceIte, Nat.reduceEqDiff] <;> first | assumption | rfl), (by simp only [get_put, ↓reduceIte, Nat.reduceEqDiff] <;> first | assumption | rfl)⟩
    · exact RunsC.leave (.inl ⟨rfl, rfl, (by simp only [get_put, ↓reduceIte, Nat.reduceEqDiff] <;> first | assumption | rfl), (by simp only [get_put, ↓reduceIte, Nat.reduceEqDiff] <;> first | assumption | rfl)⟩)
  · rintro _ rg h' (⟨rfl, rfl, r0, r1⟩ | ⟨rfl, w, r4, hf⟩)
    · simp -dsimp (disch := omega) only [go_sem, ↓reduceIte, Nat.reduceAdd, Nat.reduceSub, Nat.reduceMul, Nat.reduceLeDiff, Nat.reduceLT, Nat.reduceEqDiff, Nat.reduceBEq, Int.reduceEq, Int.reduceLT, Int.reduceLE, Int.reduceNeg, Int.reduceAdd, Int.reduceSub, Int.reduceMul, beq_self_eq_true, gt_of r0, gt_of r1]
      refine Runs.loop (loop_rule 12500 (fun i rg h1 => ∃ p, p + i = 4 ∧ 1 ≤ p ∧ h1 = h' ∧ T.get rg 0 = some (.i .i64 (mode : Int)) ∧ T.get rg 1 = some (.i .u8 (c : Int)) ∧ T.get rg 8 = some (.i .i64 (p : Int)))
        (Q := fun e rg h1 => (e = .exit 2 ∧ h1 = h') ∨ (e = .ret ∧ ∃ w, T.get rg 4 = some w ∧ Found mode c h' w h1)) ?_ 3 _ _ _ (by omega) ⟨1, by omega, by omega, rfl, (by simp only [get_put, ↓reduceIte, Nat.reduceEqDiff] <;> first | assumption | rfl), (by simp only [get_put, ↓reduceIte, Nat.reduceEqDiff] <;> first | assumption | rfl), (by simp only [get_put, ↓reduceIte, Nat.reduceEqDiff] <;> first | assumption | rfl)⟩) ?_
      · rintro m i rg h' hm ⟨p, pi, p1, rfl, r0, r1, r8⟩
        obtain ⟨m, rfl⟩ : ∃ n, m = n + 100 := ⟨m - 100, by omega⟩
        simp -dsimp (disch := omega) only [go_sem, ↓reduceIte, Nat.reduceAdd, Nat.reduceSub, Nat.reduceMul, Nat.reduceLeDiff, Nat.reduceLT, Nat.reduceEqDiff, Nat.reduceBEq, Int.reduceEq, Int.reduceLT, Int.reduceLE, Int.reduceNeg, Int.reduceAdd, Int.reduceSub, Int.reduceMul, beq_self_eq_true, gt_of r0, gt_of r1, gt_of r8]
        refine RunsC.brd (fun c1 => ?_) (fun c1 => ?_) <;> simp -dsimp (disch := omega) only [go_sem, ↓reduceIte, Nat.reduceAdd, Nat.reduceSub, Nat.reduceMul, Nat.reduceLeDiff, Nat.reduceLT, Nat.reduceEqDiff, Nat.reduceBEq, Int.reduceEq, Int.reduceLT, Int.reduceLE, Int.reduceNeg, Int.reduceAdd, Int.reduceSub, Int.reduceMul, beq_self_eq_true, c1, gt_of r0, gt_of r1, gt_of r8]
        · refine RunsC.br (fun c2 => ?_) (fun c2 => ?_) <;> simp -dsimp (disch := omega) only [go_sem, ↓reduceIte, Nat.reduceAdd, Nat.reduceSub, Nat.reduceMul, Nat.reduceLeDiff, Nat.reduceLT, Nat.reduceEqDiff, Nat.reduceBEq, Int.reduceEq, Int.reduceLT, Int.reduceLE, Int.reduceNeg, Int.reduceAdd, Int.reduceSub, Int.reduceMul, beq_self_eq_true, c1, c2, gt_of r0, gt_of r1, gt_of r8]
          · have c2' : mode ≠ 3 := by simp at c2; omega
            refine RunsC.loop (loop_rule 12000 (fun i rg h1 => ∃ v, v + i = 32 ∧ h1 = h' ∧ T.get rg 0 = some (.i .i64 (mode : Int)) ∧ T.get rg 1 = some (.i .u8 (c : Int)) ∧ T.get rg 8 = some (.i .i64 (p : Int)) ∧ T.get rg 38 = some (.i .i64 (v : Int)))
              (Q := fun e rg h1 => (e = .exit 4 ∧ h1 = h' ∧ T.get rg 0 = some (.i .i64 (mode : Int)) ∧ T.get rg 1 = some (.i .u8 (c : Int)) ∧ T.get rg 8 = some (.i .i64 (p : Int))) ∨ (e = .ret ∧ ∃ w, T.get rg 4 = some w ∧ Found mode c h' w h1)) ?_ 32 _ _ _ (by omega) ⟨0, by omega, rfl, (by simp only [get_put, ↓reduceIte, Nat.reduceEqDiff] <;> first | assumption | rfl), (by simp only [get_put, ↓reduceIte, Nat.reduceEqDiff] <;> first | assumption | rfl), (by simp only [get_put, ↓reduceIte, Nat.reduceEqDiff] <;> first | assumption | rfl), (by simp only [get_put, ↓reduceIte, Nat.reduceEqDiff] <;> first | assumption | rfl)⟩) ?_
            · rintro m i rg h' hm ⟨v, vi, rfl, r0, r1, r8, r38⟩
              obtain ⟨m, rfl⟩ : ∃ n, m = n + 100 := ⟨m - 100, by omega⟩
              simp -dsimp (disch := omega) only [go_sem, ↓reduceIte, Nat.reduceAdd, Nat.reduceSub, Nat.reduceMul, Nat.reduceLeDiff, Nat.reduceLT, Nat.reduceEqDiff, Nat.reduceBEq, Int.reduceEq, Int.reduceLT, Int.reduceLE, Int.reduceNeg, Int.reduceAdd, Int.reduceSub, Int.reduceMul, beq_self_eq_true, gt_of r0, gt_of r1, gt_of r8, gt_of r38]
              refine RunsC.brd (fun c3 => ?_) (fun c3 => ?_) <;> simp -dsimp (disch := omega) only [go_sem, ↓reduceIte, Nat.reduceAdd, Nat.reduceSub, Nat.reduceMul, Nat.reduceLeDiff, Nat.reduceLT, Nat.reduceEqDiff, Nat.reduceBEq, Int.reduceEq, Int.reduceLT, Int.reduceLE, Int.reduceNeg, Int.reduceAdd, Int.reduceSub, Int.reduceMul, beq_self_eq_true, gt_of r0, gt_of r1, gt_of r8, gt_of r38]
              · refine RunsC.bind (f54 (by omega) h1 (by omega) (by omega)) ?_
                rintro _ h' ⟨a, b, rfl, rfl, hb⟩
                simp -dsimp (disch := omega) only [go_sem, ↓reduceIte, Nat.reduceAdd, Nat.reduceSub, Nat.reduceMul, Nat.reduceLeDiff, Nat.reduceLT, Nat.reduceEqDiff, Nat.reduceBEq, Int.reduceEq, Int.reduceLT, Int.reduceLE, Int.reduceNeg, Int.reduceAdd, Int.reduceSub, Int.reduceMul, beq_self_eq_true, gt_of r0, gt_of r1, gt_of r8, gt_of r38]
                refine RunsC.br (fun c4 => ?_) (fun c4 => ?_)
                · subst c4
                  simp -dsimp (disch := omega) only [go_sem, ↓reduceIte, Nat.reduceAdd, Nat.reduceSub, Nat.reduceMul, Nat.reduceLeDiff, Nat.reduceLT, Nat.reduceEqDiff, Nat.reduceBEq, Int.reduceEq, Int.reduceLT, Int.reduceLE, Int.reduceNeg, Int.reduceAdd, Int.reduceSub, Int.reduceMul, beq_self_eq_true, gt_of r0, gt_of r1, gt_of r8, gt_of r38]
                  refine RunsC.brd (fun c5 => ?_) (fun c5 => ?_) <;> simp -dsimp (disch := omega) only [go_sem, ↓reduceIte, Nat.reduceAdd, Nat.reduceSub, Nat.reduceMul, Nat.reduceLeDiff, Nat.reduceLT, Nat.reduceEqDiff, Nat.reduceBEq, Int.reduceEq, Int.reduceLT, Int.reduceLE, Int.reduceNeg, Int.reduceAdd, Int.reduceSub, Int.reduceMul, beq_self_eq_true, gt_of r0, gt_of r1, gt_of r8, gt_of r38]
                  · obtain rfl : a = c := by omega
                    exact RunsC.back (.inr ⟨rfl, _, (by simp only [get_put, ↓reduceIte, Nat.reduceEqDiff] <;> first | assumption | rfl), [p - 1, v], lit2i _ _ _ _, Same.new _ _ _, .inr ⟨p, v, rfl, p1, by omega, by omega, c2', hb rfl⟩, by simp⟩)
                  · exact RunsC.again (32 - (v + 1)) (by omega) ⟨v + 1, by omega, rfl, (by simp only [get_put, ↓reduceIte, Nat.reduceEqDiff] <;> first | assumption | rfl), (by simp only [get_put, ↓reduceIte, Nat.reduceEqDiff] <;> first | assumption | rfl), (by simp only [get_put, ↓reduceIte, Nat.reduceEqDiff] <;> first | assumption | rfl), (by simp only [get_put, ↓reduceIte, Nat.reduceEqDiff] <;> first | assumption | rfl)⟩
                · subst c4
                  simp -dsimp (disch := omega) only [go_sem, ↓reduceIte, Nat.reduceAdd, Nat.reduceSub, Nat.reduceMul, Nat.reduceLeDiff, Nat.reduceLT, Nat.reduceEqDiff, Nat.reduceBEq, Int.reduceEq, Int.reduceLT, Int.reduceLE, Int.reduceNeg, Int.reduceAdd, Int.reduceSub, Int.reduceMul, beq_self_eq_true, gt_of r0, gt_of r1, gt_of r8, gt_of r38]
                  exact RunsC.again (32 - (v + 1)) (by omega) ⟨v + 1, by omega, rfl, (by simp only [get_put, ↓reduceIte, Nat.reduceEqDiff] <;> first | assumption | rfl), (by simp only [get_put, ↓reduceIte, Nat.reduceEqDiff] <;> first | assumption | rfl), (by simp only [get_put, ↓reduceIte, Nat.reduceEqDiff] <;> first | assumption | rfl), (by simp only [get_put, ↓reduceIte, Nat.reduceEqDiff] <;> first | assumption | rfl)⟩
              · exact RunsC.leave (.inl ⟨rfl, rfl, (by simp only [get_put, ↓reduceIte, Nat.reduceEqDiff] <;> first | assumption | rfl), (by simp only [get_put, ↓reduceIte, Nat.reduceEqDiff] <;> first | assumption | rfl), (by simp only [get_put, ↓reduceIte, Nat.reduceEqDiff] <;> first | assumption | rfl)⟩)
            · rintro _ rg h' (⟨rfl, rfl, r0, r1, r8⟩ | ⟨rfl, w, r4, hf⟩)
              · simp -dsimp (disch := omega) only [go_sem, ↓reduceIte, Nat.reduceAdd, Nat.reduceSub, Nat.reduceMul, Nat.reduceLeDiff, Nat.reduceLT, Nat.reduceEqDiff, Nat.reduceBEq, Int.reduceEq, Int.reduceLT, Int.reduceLE, Int.reduceNeg, Int.reduceAdd, Int.reduceSub, Int.reduceMul, beq_self_eq_true, gt_of r0, gt_of r1, gt_of r8]
                exact RunsC.again (4 - (p + 1)) (by omega) ⟨p + 1, by omega, by omega, rfl, (by simp only [get_put, ↓reduceIte, Nat.reduceEqDiff] <;> first | assumption | rfl), (by simp only [get_put, ↓reduceIte, Nat.reduceEqDiff] <;> first | assumption | rfl), (by simp only [get_put, ↓reduceIte, Nat.reduceEqDiff] <;> first | assumption | rfl)⟩
              · simp -dsimp (disch := omega) only [go_sem, ↓reduceIte, Nat.reduceAdd, Nat.reduceSub, Nat.reduceMul, Nat.reduceLeDiff, Nat.reduceLT, Nat.reduceEqDiff, Nat.reduceBEq, Int.reduceEq, Int.reduceLT, Int.reduceLE, Int.reduceNeg, Int.reduceAdd, Int.reduceSub, Int.reduceMul, beq_self_eq_true, gt_of r4]
                exact RunsC.back (.inr ⟨rfl, w, r4, hf⟩)
          · exact RunsC.leave (.inl ⟨rfl, rfl⟩)
        · exact RunsC.leave (.inl ⟨rfl, rfl⟩)
      · rintro _ rg h' (⟨rfl, rfl⟩ | ⟨rfl, w, r4, hf⟩)
        · simp -dsimp (disch := omega) only [go_sem, ↓reduceIte, Nat.reduceAdd, Nat.reduceSub, Nat.reduceMul, Nat.reduceLeDiff, Nat.reduceLT, Nat.reduceEqDiff, Nat.reduceBEq, Int.reduceEq, Int.reduceLT, Int.reduceLE, Int.reduceNeg, Int.reduceAdd, Int.reduceSub, Int.reduceMul, beq_self_eq_true]
          exact Runs.ret (.inl ⟨rfl, rfl⟩)
        · simp -dsimp (disch := omega) only [go_sem, ↓reduceIte, Nat.reduceAdd, Nat.reduceSub, Nat.reduceMul, Nat.reduceLeDiff, Nat.reduceLT, Nat.reduceEqDiff, Nat.reduceBEq, Int.reduceEq, Int.reduceLT, Int.reduceLE, Int.reduceNeg, Int.reduceAdd, Int.reduceSub, Int.reduceMul, beq_self_eq_true, gt_of r4]
          exact Runs.ret (.inr hf)
    · simp -dsimp (disch := omega) only [go_sem, ↓reduceIte, Nat.reduceAdd, Nat.reduceSub, Nat.reduceMul, Nat.reduceLeDiff, Nat.reduceLT, Nat.reduceEqDiff, Nat.reduceBEq, Int.reduceEq, Int.reduceLT, Int.reduceLE, Int.reduceNeg, Int.reduceAdd, Int.reduceSub, Int.reduceMul, beq_self_eq_true, gt_of r4]
      exact Runs.ret (.inr hf)
end Go.Proofs.YtcnallabiffemaaGreatDoor.Vm
