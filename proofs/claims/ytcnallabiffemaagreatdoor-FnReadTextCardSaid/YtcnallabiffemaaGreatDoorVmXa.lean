/- The codewords of ASCII of a text: run with letters. Conditions: a text of fewer than 2000 characters. -/
import Derived.Test.YtcnallabiffemaaGreatDoorVmX
set_option linter.unusedSimpArgs false
set_option linter.unusedVariables false
namespace Go.Proofs.YtcnallabiffemaaGreatDoor.Vm
open Go
def digit (a : Nat) : Bool := decide (48 ≤ a) && decide (a ≤ 57)
/-- The codewords of ASCII. -/
def encA : List Nat → List Nat
  | a :: b :: l => if digit a && digit b then (130 + (a - 48) * 10 + (b - 48)) :: encA l else (a + 1) :: encA (b :: l)
  | [a] => [a + 1]
  | [] => []
theorem drop_bt (s : ByteArray) (p : Nat) (h : p < s.size) : (cs s).drop p = bt s p :: (cs s).drop (p + 1) := by
  have h' : p < (cs s).length := by rw [cs_len]; exact h
  rw [List.drop_eq_getElem_cons h']
  congr 1
  unfold bt
  rw [List.getD_eq_getElem?_getD, List.getElem?_eq_getElem h']
  rfl
theorem encA_pair (s : ByteArray) (p : Nat) (h : p < s.size) (hd : digs s p = true) : encA ((cs s).drop p) = (130 + (bt s p - 48) * 10 + (bt s (p + 1) - 48)) :: encA ((cs s).drop (p + 2)) := by
  simp only [digs, Bool.and_eq_true, decide_eq_true_eq] at hd
  rw [drop_bt s p h, drop_bt s (p + 1) hd.1.1.1.1, encA, if_pos]
  simp only [digit, Bool.and_eq_true, decide_eq_true_eq]
  omega
theorem encA_one (s : ByteArray) (p : Nat) (h : p < s.size) (hd : digs s p = false) : encA ((cs s).drop p) = (bt s p + 1) :: encA ((cs s).drop (p + 1)) := by
  rw [drop_bt s p h]
  by_cases h1 : p + 1 < s.size
  · rw [drop_bt s (p + 1) h1, encA, if_neg]
    intro e
    simp only [digit, Bool.and_eq_true, decide_eq_true_eq] at e
    rw [Bool.eq_false_iff] at hd
    apply hd
    simp only [digs, Bool.and_eq_true, decide_eq_true_eq]
    omega
  · rw [List.drop_eq_nil_of_le (by rw [cs_len]; omega)]
    rfl
/-- The loop's state: a place p, the codewords so far. -/
structure InvA (s : ByteArray) (m0 : Nat) (h0 : AH) (i : Nat) (rg : T AV) (h : AH) (p : Nat) (v : AV) (xs : List Nat) : Prop where
  pi : p + i = s.size
  r0 : T.get rg 0 = some (.s s)
  r5 : T.get rg 5 = some (.i .i64 (p : Int))
  r4 : T.get rg 4 = some v
  sl : SlN .i64 3 m0 h v xs
  same : Same m0 h0 h
  enc : xs ++ encA ((cs s).drop p) = encA (cs s)
  len : xs.length ≤ p
set_option maxHeartbeats 4000000 in
set_option maxRecDepth 100000 in
theorem f13 {m : Nat} {h : AH} {s : ByteArray} (hm : 20000 ≤ m) (hs : s.size < 2000) :
    Runs (fun k => cl Tryz.prog (exec Tryz.prog m) false 13 (.c (.s s) .e) h k ⟨⟩) fun v h' => ∃ w, v = .tu (.c w (.c (.i .i64 (s.size : Int)) .e)) ∧ SlN .i64 3 h.next h' w (encA (cs s)) ∧ Same h.next h h' := by
  obtain ⟨m, rfl⟩ : ∃ n, m = n + 100 := ⟨m - 100, by omega⟩
  refine Runs.of_eq (fun k => cl_in Tryz.func13 rfl (by kernel_rfl) Tryz.ntmps13 Tryz.results13 rfl rfl _ _ _ _ _ _) ?_
  simp -dsimp (disch := omega) only [go_sem, ↓reduceIte, Nat.reduceAdd, Nat.reduceSub, Nat.reduceMul, Nat.reduceLeDiff, Nat.reduceLT, Nat.reduceEqDiff, Nat.reduceBEq, Int.reduceEq, Int.reduceLT, Int.reduceLE, Int.reduceNeg, Int.reduceAdd, Int.reduceSub, Int.reduceMul, beq_self_eq_true]
  refine Runs.loop (loop_rule 12000 (fun i rg h' => ∃ p v xs, InvA s h.next h i rg h' p v xs) (Q := fun e rg h' => e = .exit 0 ∧ ∃ v, T.get rg 0 = some (.s s) ∧ T.get rg 4 = some v ∧ SlN .i64 3 h.next h' v (encA (cs s)) ∧ Same h.next h h') ?_ s.size _ _ _ (by omega) ⟨0, .ns, [], ?_⟩) ?_
  · intro m i rg h' hm ⟨p, v, xs, hi⟩
    obtain ⟨m, rfl⟩ : ∃ n, m = n + 100 := ⟨m - 100, by omega⟩
    have r0 := hi.r0; have r5 := hi.r5; have r4 := hi.r4; have pi := hi.pi
    have hl := hi.len
    simp -dsimp (disch := omega) only [go_sem, ↓reduceIte, Nat.reduceAdd, Nat.reduceSub, Nat.reduceMul, Nat.reduceLeDiff, Nat.reduceLT, Nat.reduceEqDiff, Nat.reduceBEq, Int.reduceEq, Int.reduceLT, Int.reduceLE, Int.reduceNeg, Int.reduceAdd, Int.reduceSub, Int.reduceMul, beq_self_eq_true, gt_of r0, gt_of r5, gt_of r4]
    refine RunsC.brd (fun c1 => ?_) (fun c1 => ?_) <;> simp -dsimp (disch := omega) only [go_sem, ↓reduceIte, Nat.reduceAdd, Nat.reduceSub, Nat.reduceMul, Nat.reduceLeDiff, Nat.reduceLT, Nat.reduceEqDiff, Nat.reduceBEq, Int.reduceEq, Int.reduceLT, Int.reduceLE, Int.reduceNeg, Int.reduceAdd, Int.reduceSub, Int.reduceMul, beq_self_eq_true, c1, gt_of r0, gt_of r5, gt_of r4]
    · refine RunsC.bind (f30 (by omega) (by omega) (by omega)) ?_
      rintro _ h' ⟨rfl, rfl⟩
      simp -dsimp (disch := omega) only [go_sem, ↓reduceIte, Nat.reduceAdd, Nat.reduceSub, Nat.reduceMul, Nat.reduceLeDiff, Nat.reduceLT, Nat.reduceEqDiff, Nat.reduceBEq, Int.reduceEq, Int.reduceLT, Int.reduceLE, Int.reduceNeg, Int.reduceAdd, Int.reduceSub, Int.reduceMul, beq_self_eq_true, gt_of r0, gt_of r5, gt_of r4]
      have hb0 := bt_lt s p
      have hb1 := bt_lt s (p + 1)
      refine RunsC.br (fun d1 => ?_) (fun d1 => ?_) <;> simp -dsimp (disch := omega) only [go_sem, ↓reduceIte, Nat.reduceAdd, Nat.reduceSub, Nat.reduceMul, Nat.reduceLeDiff, Nat.reduceLT, Nat.reduceEqDiff, Nat.reduceBEq, Int.reduceEq, Int.reduceLT, Int.reduceLE, Int.reduceNeg, Int.reduceAdd, Int.reduceSub, Int.reduceMul, beq_self_eq_true, gt_of r0, gt_of r5, gt_of r4]
      · have d2 := d1
        simp only [digs, Bool.and_eq_true, decide_eq_true_eq] at d2
        refine RunsC.drawM _ _ 15 (by rfl) (by rfl) (by rfl) (by simp only [List.take_succ_cons, List.take_zero]; rfl) (by simp only [List.drop_succ_cons, List.drop_zero]; rfl) (by kernel_rfl) ?_
        simp -dsimp (disch := omega) only [go_sem, ↓reduceIte, Nat.reduceAdd, Nat.reduceSub, Nat.reduceMul, Nat.reduceLeDiff, Nat.reduceLT, Nat.reduceEqDiff, Nat.reduceBEq, Int.reduceEq, Int.reduceLT, Int.reduceLE, Int.reduceNeg, Int.reduceAdd, Int.reduceSub, Int.reduceMul, beq_self_eq_true, gt_of r0, gt_of r5, gt_of r4]
        refine RunsC.app (app1i hi.sl hi.same.next _ (by omega)) (by simp only [get_put, ↓reduceIte, Nat.reduceEqDiff] <;> first | assumption | rfl) (by simp only [get_put, ↓reduceIte, Nat.reduceEqDiff] <;> first | assumption | rfl) ?_
        intro v' h2 ⟨a1, a2, _⟩
        simp -dsimp (disch := omega) only [go_sem, ↓reduceIte, Nat.reduceAdd, Nat.reduceSub, Nat.reduceMul, Nat.reduceLeDiff, Nat.reduceLT, Nat.reduceEqDiff, Nat.reduceBEq, Int.reduceEq, Int.reduceLT, Int.reduceLE, Int.reduceNeg, Int.reduceAdd, Int.reduceSub, Int.reduceMul, beq_self_eq_true, gt_of r0, gt_of r5, gt_of r4]
        refine RunsC.again (s.size - (p + 2)) (by omega) ⟨p + 1 + 1, v', _, ⟨by omega, (by simp only [get_put, ↓reduceIte, Nat.reduceEqDiff] <;> first | assumption | rfl), (by simp only [get_put, ↓reduceIte, Nat.reduceEqDiff] <;> first | assumption | rfl), (by simp only [get_put, ↓reduceIte, Nat.reduceEqDiff] <;> first | assumption | rfl), a1, hi.same.trans a2, ?_, ?_⟩⟩
        · rw [List.append_assoc, List.singleton_append, ← encA_pair s p (by omega) d1]
          exact hi.enc
        · simp only [List.length_append, List.length_singleton]; omega
      · refine RunsC.app (app1i hi.sl hi.same.next _ (by omega)) (by simp only [get_put, ↓reduceIte, Nat.reduceEqDiff] <;> first | assumption | rfl) (by simp only [get_put, ↓reduceIte, Nat.reduceEqDiff] <;> first | assumption | rfl) ?_
        intro v' h2 ⟨a1, a2, _⟩
        simp -dsimp (disch := omega) only [go_sem, ↓reduceIte, Nat.reduceAdd, Nat.reduceSub, Nat.reduceMul, Nat.reduceLeDiff, Nat.reduceLT, Nat.reduceEqDiff, Nat.reduceBEq, Int.reduceEq, Int.reduceLT, Int.reduceLE, Int.reduceNeg, Int.reduceAdd, Int.reduceSub, Int.reduceMul, beq_self_eq_true, gt_of r0, gt_of r5, gt_of r4]
        refine RunsC.again (s.size - (p + 1)) (by omega) ⟨p + 1, v', _, ⟨by omega, (by simp only [get_put, ↓reduceIte, Nat.reduceEqDiff] <;> first | assumption | rfl), (by simp only [get_put, ↓reduceIte, Nat.reduceEqDiff] <;> first | assumption | rfl), (by simp only [get_put, ↓reduceIte, Nat.reduceEqDiff] <;> first | assumption | rfl), a1, hi.same.trans a2, ?_, ?_⟩⟩
        · rw [List.append_assoc, List.singleton_append, ← encA_one s p (by omega) d1]
          exact hi.enc
        · simp only [List.length_append, List.length_singleton]; omega
    · refine RunsC.leave ⟨rfl, v, (by simp only [get_put, ↓reduceIte, Nat.reduceEqDiff] <;> first | assumption | rfl), (by simp only [get_put, ↓reduceIte, Nat.reduceEqDiff] <;> first | assumption | rfl), ?_, hi.same⟩
      have := hi.enc
      rw [List.drop_eq_nil_of_le (by rw [cs_len]; omega), encA, List.append_nil] at this
      rw [← this]; exact hi.sl
  · exact ⟨by omega, (by simp only [get_put, ↓reduceIte, Nat.reduceEqDiff] <;> first | assumption | rfl), (by simp only [get_put, ↓reduceIte, Nat.reduceEqDiff] <;> first | assumption | rfl), (by simp only [get_put, ↓reduceIte, Nat.reduceEqDiff] <;> first | assumption | rfl), SlN.nil, Same.rfl', by simp, by simp⟩
  · rintro _ rg h' ⟨rfl, v, r0, r4, a1, a2⟩
    simp -dsimp (disch := omega) only [go_sem, ↓reduceIte, Nat.reduceAdd, Nat.reduceSub, Nat.reduceMul, Nat.reduceLeDiff, Nat.reduceLT, Nat.reduceEqDiff, Nat.reduceBEq, Int.reduceEq, Int.reduceLT, Int.reduceLE, Int.reduceNeg, Int.reduceAdd, Int.reduceSub, Int.reduceMul, beq_self_eq_true, gt_of r0, gt_of r4]
    exact Runs.ret ⟨v, rfl, a1, a2⟩
end Go.Proofs.YtcnallabiffemaaGreatDoor.Vm
