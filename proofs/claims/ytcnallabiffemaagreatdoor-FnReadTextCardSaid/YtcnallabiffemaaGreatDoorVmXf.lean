/- The codewords of EDIFACT: run with letters. Conditions: a text of fewer than 2000 characters. -/
import Derived.Test.YtcnallabiffemaaGreatDoorVmXe
set_option linter.unusedSimpArgs false
set_option linter.unusedVariables false
namespace Go.Proofs.YtcnallabiffemaaGreatDoor.Vm
open Go
structure InvE (s : ByteArray) (n m0 : Nat) (h0 : AH) (rg : T AV) (h : AH) (p acc cnt : Nat) (b : Int) (v : AV) (xs : List Nat) : Prop where
  r0 : T.get rg 0 = some (.s s)
  r4 : T.get rg 4 = some (.i .i64 (n : Int))
  r5 : T.get rg 5 = some (.i .i64 b)
  r6 : T.get rg 6 = some (.i .i64 (cnt : Int))
  r7 : T.get rg 7 = some v
  r32 : T.get rg 32 = some (.i .i64 ((n + 1 : Nat) : Int))
  r33 : T.get rg 33 = some (.i .i64 (p : Int))
  sl : SlN .i64 3 m0 h v xs
  same : Same m0 h0 h
  mod : Mod b cnt acc
  len : xs.length ≤ p + 1
set_option maxHeartbeats 4000000 in
set_option maxRecDepth 100000 in
theorem f27 {m : Nat} {h : AH} {s : ByteArray} (hm : 30000 ≤ m) (hs : s.size < 2000) :
    Runs (fun k => cl Tryz.prog (exec Tryz.prog m) false 27 (.c (.s s) .e) h k ⟨⟩) fun r h' => (r = .tu (.c .ns (.c (.i .i64 0) .e)) ∧ h' = h) ∨
      ∃ (w : AV) (n : Nat), r = .tu (.c w (.c (.i .i64 (n : Int)) .e)) ∧ 0 < n ∧ n ≤ s.size ∧ SlN .i64 3 h.next h' w (encE ((cs s).take n)) ∧ Same h.next h h' ∧ ∀ j, j < n → 32 ≤ bt s j ∧ bt s j < 95 := by
  obtain ⟨m, rfl⟩ : ∃ n, m = n + 100 := ⟨m - 100, by omega⟩
  refine Runs.of_eq (fun k => cl_in Tryz.func27 rfl (by kernel_rfl) Tryz.ntmps27 Tryz.results27 rfl rfl _ _ _ _ _ _) ?_
  simp -dsimp (disch := omega) only [go_sem, ↓reduceIte, Nat.reduceAdd, Nat.reduceSub, Nat.reduceMul, Nat.reduceLeDiff, Nat.reduceLT, Nat.reduceEqDiff, Nat.reduceBEq, Int.reduceEq, Int.reduceLT, Int.reduceLE, Int.reduceNeg, Int.reduceAdd, Int.reduceSub, Int.reduceMul, beq_self_eq_true]
  refine Runs.loop (loop_rule 12000 (fun i rg h' => ∃ n, n + i = s.size ∧ h' = h ∧ (∀ j, j < n → 32 ≤ bt s j ∧ bt s j < 95) ∧ T.get rg 0 = some (.s s) ∧ T.get rg 4 = some (.i .i64 (n : Int)))
    (Q := fun e rg h' => e = .exit 0 ∧ ∃ n, n ≤ s.size ∧ h' = h ∧ (∀ j, j < n → 32 ≤ bt s j ∧ bt s j < 95) ∧ T.get rg 0 = some (.s s) ∧ T.get rg 4 = some (.i .i64 (n : Int))) ?_ s.size _ _ _ (by omega) ⟨0, by omega, rfl, by omega, (by simp only [get_put, ↓reduceIte, Nat.reduceEqDiff] <;> first | assumption | rfl), (by simp only [get_put, ↓reduceIte, Nat.reduceEqDiff] <;> first | assumption | rfl)⟩) ?_
  · rintro m i rg h' hm ⟨n, pi, rfl, hn, r0, r4⟩
    obtain ⟨m, rfl⟩ : ∃ n, m = n + 100 := ⟨m - 100, by omega⟩
    simp -dsimp (disch := omega) only [go_sem, ↓reduceIte, Nat.reduceAdd, Nat.reduceSub, Nat.reduceMul, Nat.reduceLeDiff, Nat.reduceLT, Nat.reduceEqDiff, Nat.reduceBEq, Int.reduceEq, Int.reduceLT, Int.reduceLE, Int.reduceNeg, Int.reduceAdd, Int.reduceSub, Int.reduceMul, beq_self_eq_true, gt_of r0, gt_of r4]
    refine RunsC.brd (fun c1 => ?_) (fun c1 => ?_) <;> simp -dsimp (disch := omega) only [go_sem, ↓reduceIte, Nat.reduceAdd, Nat.reduceSub, Nat.reduceMul, Nat.reduceLeDiff, Nat.reduceLT, Nat.reduceEqDiff, Nat.reduceBEq, Int.reduceEq, Int.reduceLT, Int.reduceLE, Int.reduceNeg, Int.reduceAdd, Int.reduceSub, Int.reduceMul, beq_self_eq_true, c1, gt_of r0, gt_of r4]
    · refine RunsC.brd (fun c2 => ?_) (fun c2 => ?_) <;> simp -dsimp (disch := omega) only [go_sem, ↓reduceIte, Nat.reduceAdd, Nat.reduceSub, Nat.reduceMul, Nat.reduceLeDiff, Nat.reduceLT, Nat.reduceEqDiff, Nat.reduceBEq, Int.reduceEq, Int.reduceLT, Int.reduceLE, Int.reduceNeg, Int.reduceAdd, Int.reduceSub, Int.reduceMul, beq_self_eq_true, c1, c2, gt_of r0, gt_of r4]
      · refine RunsC.brd (fun c3 => ?_) (fun c3 => ?_) <;> simp -dsimp (disch := omega) only [go_sem, ↓reduceIte, Nat.reduceAdd, Nat.reduceSub, Nat.reduceMul, Nat.reduceLeDiff, Nat.reduceLT, Nat.reduceEqDiff, Nat.reduceBEq, Int.reduceEq, Int.reduceLT, Int.reduceLE, Int.reduceNeg, Int.reduceAdd, Int.reduceSub, Int.reduceMul, beq_self_eq_true, c1, c2, c3, gt_of r0, gt_of r4]
        · exact RunsC.again (s.size - (n + 1)) (by omega) ⟨n + 1, by omega, rfl, fun j hj => by rcases Nat.lt_succ_iff_lt_or_eq.1 hj with hj | rfl; exact hn j hj; omega, (by simp only [get_put, ↓reduceIte, Nat.reduceEqDiff] <;> first | assumption | rfl), (by simp only [get_put, ↓reduceIte, Nat.reduceEqDiff] <;> first | assumption | rfl)⟩
        · exact RunsC.leave ⟨rfl, n, by omega, rfl, hn, (by simp only [get_put, ↓reduceIte, Nat.reduceEqDiff] <;> first | assumption | rfl), (by simp only [get_put, ↓reduceIte, Nat.reduceEqDiff] <;> first | assumption | rfl)⟩
      · exact RunsC.leave ⟨rfl, n, by omega, rfl, hn, (by simp only [get_put, ↓reduceIte, Nat.reduceEqDiff] <;> first | assumption | rfl), (by simp only [get_put, ↓reduceIte, Nat.reduceEqDiff] <;> first | assumption | rfl)⟩
    · exact RunsC.leave ⟨rfl, n, by omega, rfl, hn, (by simp only [get_put, ↓reduceIte, Nat.reduceEqDiff] <;> first | assumption | rfl), (by simp only [get_put, ↓reduceIte, Nat.reduceEqDiff] <;> first | assumption | rfl)⟩
  · rintro _ rg h' ⟨rfl, n, hn, rfl, hb, r0, r4⟩
    simp -dsimp (disch := omega) only [go_sem, ↓reduceIte, Nat.reduceAdd, Nat.reduceSub, Nat.reduceMul, Nat.reduceLeDiff, Nat.reduceLT, Nat.reduceEqDiff, Nat.reduceBEq, Int.reduceEq, Int.reduceLT, Int.reduceLE, Int.reduceNeg, Int.reduceAdd, Int.reduceSub, Int.reduceMul, beq_self_eq_true, gt_of r0, gt_of r4]
    refine Runs.brd (fun c1 => ?_) (fun c1 => ?_) <;> simp -dsimp (disch := omega) only [go_sem, ↓reduceIte, Nat.reduceAdd, Nat.reduceSub, Nat.reduceMul, Nat.reduceLeDiff, Nat.reduceLT, Nat.reduceEqDiff, Nat.reduceBEq, Int.reduceEq, Int.reduceLT, Int.reduceLE, Int.reduceNeg, Int.reduceAdd, Int.reduceSub, Int.reduceMul, beq_self_eq_true, gt_of r0, gt_of r4]
    · exact Runs.ret (.inl ⟨rfl, rfl⟩)
    · have hlen := sext_len s n hn
      have hget := take_getD s n
      have hgetE := take_getE s n hn
      have hlt := sext_lt ((cs s).take n)
      refine Runs.loop (loop_rule 13000 (fun i rg h1 => ∃ p acc cnt b v xs, p + i = n + 1 ∧ (cnt = 0 ∨ cnt = 2 ∨ cnt = 4 ∨ cnt = 6) ∧ xs ++ go6 acc cnt ((sext ((cs s).take n)).drop p) = encE ((cs s).take n) ∧ InvE s n h'.next h' rg h1 p acc cnt b v xs)
        (Q := fun e rg h1 => e = .exit 2 ∧ ∃ acc cnt b v xs, (cnt = 0 ∨ cnt = 2 ∨ cnt = 4 ∨ cnt = 6) ∧ xs ++ go6 acc cnt [] = encE ((cs s).take n) ∧ InvE s n h'.next h' rg h1 (n + 1) acc cnt b v xs) ?_ (n + 1) _ _ _ (by omega) ⟨0, 0, 0, 0, .sl h'.next 0 1 1, [240], by omega, by omega, by simp [encE], ⟨(by simp only [get_put, ↓reduceIte, Nat.reduceEqDiff] <;> first | assumption | rfl), (by simp only [get_put, ↓reduceIte, Nat.reduceEqDiff] <;> first | assumption | rfl), (by simp only [get_put, ↓reduceIte, Nat.reduceEqDiff] <;> first | assumption | rfl), (by simp only [get_put, ↓reduceIte, Nat.reduceEqDiff] <;> first | assumption | rfl), (by simp only [get_put, ↓reduceIte, Nat.reduceEqDiff] <;> first | assumption | rfl), (by simp only [get_put, ↓reduceIte, Nat.reduceEqDiff] <;> first | assumption | rfl), (by simp only [get_put, ↓reduceIte, Nat.reduceEqDiff] <;> first | assumption | rfl), lit1i _ _ _, Same.new _ _ _, rfl, by simp⟩⟩) ?_
      · rintro m i rg h1 hm ⟨p, acc, cnt, b, v, xs, pi, hc, he, hi⟩
        obtain ⟨m, rfl⟩ : ∃ n, m = n + 100 := ⟨m - 100, by omega⟩
        have r0 := hi.r0; have r4 := hi.r4; have r5 := hi.r5; have r6 := hi.r6; have r7 := hi.r7; have r32 := hi.r32; have r33 := hi.r33
        have hl := hi.len
        simp -dsimp (disch := omega) only [go_sem, ↓reduceIte, Nat.reduceAdd, Nat.reduceSub, Nat.reduceMul, Nat.reduceLeDiff, Nat.reduceLT, Nat.reduceEqDiff, Nat.reduceBEq, Int.reduceEq, Int.reduceLT, Int.reduceLE, Int.reduceNeg, Int.reduceAdd, Int.reduceSub, Int.reduceMul, beq_self_eq_true, gt_of r0, gt_of r4, gt_of r5, gt_of r6, gt_of r7, gt_of r32, gt_of r33]
        refine RunsC.brd (fun c1 => ?_) (fun c1 => ?_) <;> simp -dsimp (disch := omega) only [go_sem, ↓reduceIte, Nat.reduceAdd, Nat.reduceSub, Nat.reduceMul, Nat.reduceLeDiff, Nat.reduceLT, Nat.reduceEqDiff, Nat.reduceBEq, Int.reduceEq, Int.reduceLT, Int.reduceLE, Int.reduceNeg, Int.reduceAdd, Int.reduceSub, Int.reduceMul, beq_self_eq_true, c1, gt_of r0, gt_of r4, gt_of r5, gt_of r6, gt_of r7, gt_of r32, gt_of r33]
        · refine RunsC.joind (fun e rg h2 => e = .normal ∧ h2 = h1 ∧ T.get rg 0 = some (.s s) ∧ T.get rg 4 = some (.i .i64 (n : Int)) ∧ T.get rg 5 = some (.i .i64 b) ∧ T.get rg 6 = some (.i .i64 (cnt : Int)) ∧ T.get rg 7 = some v ∧
              T.get rg 32 = some (.i .i64 ((n + 1 : Nat) : Int)) ∧ T.get rg 33 = some (.i .i64 (p : Int)) ∧ T.get rg 9 = some (.i .i64 ((sext ((cs s).take n)).getD p 0 : Int))) ?_ ?_ ?_
          · intro c2
            have hb8 := bt_lt s p
            simp -dsimp (disch := omega) only [go_sem, ↓reduceIte, Nat.reduceAdd, Nat.reduceSub, Nat.reduceMul, Nat.reduceLeDiff, Nat.reduceLT, Nat.reduceEqDiff, Nat.reduceBEq, Int.reduceEq, Int.reduceLT, Int.reduceLE, Int.reduceNeg, Int.reduceAdd, Int.reduceSub, Int.reduceMul, beq_self_eq_true, gt_of r0, gt_of r4, gt_of r5, gt_of r6, gt_of r7, and63n]
            refine RunsC.ret ⟨rfl, rfl, (by simp only [get_put, ↓reduceIte, Nat.reduceEqDiff] <;> first | assumption | rfl), (by simp only [get_put, ↓reduceIte, Nat.reduceEqDiff] <;> first | assumption | rfl), (by simp only [get_put, ↓reduceIte, Nat.reduceEqDiff] <;> first | assumption | rfl), (by simp only [get_put, ↓reduceIte, Nat.reduceEqDiff] <;> first | assumption | rfl), (by simp only [get_put, ↓reduceIte, Nat.reduceEqDiff] <;> first | assumption | rfl), (by simp only [get_put, ↓reduceIte, Nat.reduceEqDiff] <;> first | assumption | rfl), (by simp only [get_put, ↓reduceIte, Nat.reduceEqDiff] <;> first | assumption | rfl), ?_⟩
            rw [hget p (by omega) hn]
            exact (by simp only [get_put, ↓reduceIte, Nat.reduceEqDiff] <;> first | assumption | rfl)
          · intro c2
            simp -dsimp (disch := omega) only [go_sem, ↓reduceIte, Nat.reduceAdd, Nat.reduceSub, Nat.reduceMul, Nat.reduceLeDiff, Nat.reduceLT, Nat.reduceEqDiff, Nat.reduceBEq, Int.reduceEq, Int.reduceLT, Int.reduceLE, Int.reduceNeg, Int.reduceAdd, Int.reduceSub, Int.reduceMul, beq_self_eq_true, gt_of r0, gt_of r4, gt_of r5, gt_of r6, gt_of r7]
            refine RunsC.ret ⟨rfl, rfl, (by simp only [get_put, ↓reduceIte, Nat.reduceEqDiff] <;> first | assumption | rfl), (by simp only [get_put, ↓reduceIte, Nat.reduceEqDiff] <;> first | assumption | rfl), (by simp only [get_put, ↓reduceIte, Nat.reduceEqDiff] <;> first | assumption | rfl), (by simp only [get_put, ↓reduceIte, Nat.reduceEqDiff] <;> first | assumption | rfl), (by simp only [get_put, ↓reduceIte, Nat.reduceEqDiff] <;> first | assumption | rfl), (by simp only [get_put, ↓reduceIte, Nat.reduceEqDiff] <;> first | assumption | rfl), (by simp only [get_put, ↓reduceIte, Nat.reduceEqDiff] <;> first | assumption | rfl), ?_⟩
            obtain rfl : p = n := by omega
            rw [hgetE]
            exact (by simp only [get_put, ↓reduceIte, Nat.reduceEqDiff] <;> first | assumption | rfl)
          · rintro _ rg h2 ⟨rfl, rfl, r0, r4, r5, r6, r7, r32, r33, r9⟩
            obtain ⟨B, q, eB, eB'⟩ := or6 b _ (hlt p)
            have hB := grow B q b acc _ cnt hc (hlt p) hi.mod eB'
            rw [drop_getD _ p (by omega), go6_c] at he
            generalize (sext ((cs s).take n)).getD p 0 = x at *
            simp -dsimp (disch := omega) only [go_sem, ↓reduceIte, Nat.reduceAdd, Nat.reduceSub, Nat.reduceMul, Nat.reduceLeDiff, Nat.reduceLT, Nat.reduceEqDiff, Nat.reduceBEq, Int.reduceEq, Int.reduceLT, Int.reduceLE, Int.reduceNeg, Int.reduceAdd, Int.reduceSub, Int.reduceMul, beq_self_eq_true, gt_of r0, gt_of r4, gt_of r5, gt_of r6, gt_of r7, gt_of r32, gt_of r33, gt_of r9, eB]
            refine RunsC.loop (loop_rule 12000 (fun i rg h3 => ∃ acc v xs, i < 14 ∧ i % 2 = 0 ∧ xs ++ goW acc i ((sext ((cs s).take n)).drop (p + 1)) = encE ((cs s).take n) ∧ Mod B i acc ∧ T.get rg 0 = some (.s s) ∧ T.get rg 4 = some (.i .i64 (n : Int)) ∧ T.get rg 5 = some (.i .i64 B) ∧ T.get rg 6 = some (.i .i64 (i : Int)) ∧ T.get rg 7 = some v ∧
                T.get rg 32 = some (.i .i64 ((n + 1 : Nat) : Int)) ∧ T.get rg 33 = some (.i .i64 (p : Int)) ∧ SlN .i64 3 h'.next h3 v xs ∧ Same h'.next h' h3 ∧ xs.length + (if i < 8 then 0 else 1) ≤ p + 2)
              (Q := fun e rg h3 => e = .exit 4 ∧ ∃ acc cnt v xs, (cnt = 0 ∨ cnt = 2 ∨ cnt = 4 ∨ cnt = 6) ∧ xs ++ go6 acc cnt ((sext ((cs s).take n)).drop (p + 1)) = encE ((cs s).take n) ∧ Mod B cnt acc ∧ T.get rg 0 = some (.s s) ∧ T.get rg 4 = some (.i .i64 (n : Int)) ∧ T.get rg 5 = some (.i .i64 B) ∧ T.get rg 6 = some (.i .i64 (cnt : Int)) ∧ T.get rg 7 = some v ∧
                T.get rg 32 = some (.i .i64 ((n + 1 : Nat) : Int)) ∧ T.get rg 33 = some (.i .i64 (p : Int)) ∧ SlN .i64 3 h'.next h3 v xs ∧ Same h'.next h' h3 ∧ xs.length ≤ p + 2) ?_ (cnt + 6) _ _ _ (by omega)
              ⟨acc * 64 + x, v, xs, by omega, by omega, he, hB, (by simp only [get_put, ↓reduceIte, Nat.reduceEqDiff] <;> first | assumption | rfl), (by simp only [get_put, ↓reduceIte, Nat.reduceEqDiff] <;> first | assumption | rfl), (by simp only [get_put, ↓reduceIte, Nat.reduceEqDiff] <;> first | assumption | rfl), (by simp only [get_put, ↓reduceIte, Nat.reduceEqDiff] <;> first | assumption | rfl), (by simp only [get_put, ↓reduceIte, Nat.reduceEqDiff] <;> first | assumption | rfl), (by simp only [get_put, ↓reduceIte, Nat.reduceEqDiff] <;> first | assumption | rfl), (by simp only [get_put, ↓reduceIte, Nat.reduceEqDiff] <;> first | assumption | rfl), hi.sl, hi.same, by split <;> omega⟩) ?_
            · rintro m i rg h3 hm ⟨acc, v, xs, i1, i2, he, hB, r0, r4, r5, r6, r7, r32, r33, sl, sm, hx⟩
              obtain ⟨m, rfl⟩ : ∃ n, m = n + 100 := ⟨m - 100, by omega⟩
              simp -dsimp (disch := omega) only [go_sem, ↓reduceIte, Nat.reduceAdd, Nat.reduceSub, Nat.reduceMul, Nat.reduceLeDiff, Nat.reduceLT, Nat.reduceEqDiff, Nat.reduceBEq, Int.reduceEq, Int.reduceLT, Int.reduceLE, Int.reduceNeg, Int.reduceAdd, Int.reduceSub, Int.reduceMul, beq_self_eq_true, gt_of r0, gt_of r4, gt_of r5, gt_of r6, gt_of r7, gt_of r32, gt_of r33]
              have c8 : ¬ ((i - 8 : Nat) : Int) < 0 := by omega
              have hv := fun h8 => emit B acc i h8 i1 hB
              refine RunsC.brd (fun c3 => ?_) (fun c3 => ?_) <;> simp -dsimp (disch := omega) only [go_sem, ↓reduceIte, Nat.reduceAdd, Nat.reduceSub, Nat.reduceMul, Nat.reduceLeDiff, Nat.reduceLT, Nat.reduceEqDiff, Nat.reduceBEq, Int.reduceEq, Int.reduceLT, Int.reduceLE, Int.reduceNeg, Int.reduceAdd, Int.reduceSub, Int.reduceMul, beq_self_eq_true, gt_of r0, gt_of r4, gt_of r5, gt_of r6, gt_of r7, gt_of r32, gt_of r33, c8, and255, hv]
              · rw [if_neg (by omega)] at hx
                refine RunsC.app (app1i sl sm.next _ (by omega)) (by simp only [get_put, ↓reduceIte, Nat.reduceEqDiff] <;> first | assumption | rfl) (by simp only [get_put, ↓reduceIte, Nat.reduceEqDiff] <;> first | assumption | rfl) ?_
                intro v' h4 ⟨a1, a2, _⟩
                simp -dsimp (disch := omega) only [go_sem, ↓reduceIte, Nat.reduceAdd, Nat.reduceSub, Nat.reduceMul, Nat.reduceLeDiff, Nat.reduceLT, Nat.reduceEqDiff, Nat.reduceBEq, Int.reduceEq, Int.reduceLT, Int.reduceLE, Int.reduceNeg, Int.reduceAdd, Int.reduceSub, Int.reduceMul, beq_self_eq_true, gt_of r0, gt_of r4, gt_of r5, gt_of r6, gt_of r7, gt_of r32, gt_of r33]
                refine RunsC.again (i - 8) (by omega) ⟨acc % 2 ^ (i - 8), v', _, by omega, by omega, ?_, shrink B acc i (by omega) i1 hB, (by simp only [get_put, ↓reduceIte, Nat.reduceEqDiff] <;> first | assumption | rfl), (by simp only [get_put, ↓reduceIte, Nat.reduceEqDiff] <;> first | assumption | rfl), (by simp only [get_put, ↓reduceIte, Nat.reduceEqDiff] <;> first | assumption | rfl), (by simp only [get_put, ↓reduceIte, Nat.reduceEqDiff] <;> first | assumption | rfl), (by simp only [get_put, ↓reduceIte, Nat.reduceEqDiff] <;> first | assumption | rfl), (by simp only [get_put, ↓reduceIte, Nat.reduceEqDiff] <;> first | assumption | rfl), (by simp only [get_put, ↓reduceIte, Nat.reduceEqDiff] <;> first | assumption | rfl), a1, sm.trans a2, ?_⟩
                · rw [goW, if_pos (by omega)] at he
                  rw [List.append_assoc, List.singleton_append, goW, if_neg (by omega)]
                  exact he
                · rw [List.length_append, List.length_singleton, if_pos (by omega)]
                  omega
              · rw [goW, if_neg (by omega)] at he
                rw [if_pos (by omega)] at hx
                exact RunsC.leave ⟨rfl, acc, i, v, xs, by omega, he, hB, (by simp only [get_put, ↓reduceIte, Nat.reduceEqDiff] <;> first | assumption | rfl), (by simp only [get_put, ↓reduceIte, Nat.reduceEqDiff] <;> first | assumption | rfl), (by simp only [get_put, ↓reduceIte, Nat.reduceEqDiff] <;> first | assumption | rfl), (by simp only [get_put, ↓reduceIte, Nat.reduceEqDiff] <;> first | assumption | rfl), (by simp only [get_put, ↓reduceIte, Nat.reduceEqDiff] <;> first | assumption | rfl), (by simp only [get_put, ↓reduceIte, Nat.reduceEqDiff] <;> first | assumption | rfl), (by simp only [get_put, ↓reduceIte, Nat.reduceEqDiff] <;> first | assumption | rfl), sl, sm, hx⟩
            · rintro _ rg h3 ⟨rfl, acc, cnt, v, xs, hc, he, hB, r0, r4, r5, r6, r7, r32, r33, sl, sm, hx⟩
              simp -dsimp (disch := omega) only [go_sem, ↓reduceIte, Nat.reduceAdd, Nat.reduceSub, Nat.reduceMul, Nat.reduceLeDiff, Nat.reduceLT, Nat.reduceEqDiff, Nat.reduceBEq, Int.reduceEq, Int.reduceLT, Int.reduceLE, Int.reduceNeg, Int.reduceAdd, Int.reduceSub, Int.reduceMul, beq_self_eq_true, gt_of r0, gt_of r4, gt_of r5, gt_of r6, gt_of r7, gt_of r32, gt_of r33]
              exact RunsC.again (n + 1 - (p + 1)) (by omega) ⟨p + 1, acc, cnt, B, v, xs, by omega, hc, he, ⟨(by simp only [get_put, ↓reduceIte, Nat.reduceEqDiff] <;> first | assumption | rfl), (by simp only [get_put, ↓reduceIte, Nat.reduceEqDiff] <;> first | assumption | rfl), (by simp only [get_put, ↓reduceIte, Nat.reduceEqDiff] <;> first | assumption | rfl), (by simp only [get_put, ↓reduceIte, Nat.reduceEqDiff] <;> first | assumption | rfl), (by simp only [get_put, ↓reduceIte, Nat.reduceEqDiff] <;> first | assumption | rfl), (by simp only [get_put, ↓reduceIte, Nat.reduceEqDiff] <;> first | assumption | rfl), (by simp only [get_put, ↓reduceIte, Nat.reduceEqDiff] <;> first | assumption | rfl), sl, sm, hB, hx⟩⟩
        · obtain rfl : p = n + 1 := by omega
          rw [List.drop_eq_nil_of_le (by omega)] at he
          exact RunsC.leave ⟨rfl, acc, cnt, b, v, xs, hc, he, ⟨(by simp only [get_put, ↓reduceIte, Nat.reduceEqDiff] <;> first | assumption | rfl), (by simp only [get_put, ↓reduceIte, Nat.reduceEqDiff] <;> first | assumption | rfl), (by simp only [get_put, ↓reduceIte, Nat.reduceEqDiff] <;> first | assumption | rfl), (by simp only [get_put, ↓reduceIte, Nat.reduceEqDiff] <;> first | assumption | rfl), (by simp only [get_put, ↓reduceIte, Nat.reduceEqDiff] <;> first | assumption | rfl), (by simp only [get_put, ↓reduceIte, Nat.reduceEqDiff] <;> first | assumption | rfl), (by simp only [get_put, ↓reduceIte, Nat.reduceEqDiff] <;> first | assumption | rfl), hi.sl, hi.same, hi.mod, hi.len⟩⟩
      · rintro _ rg h1 ⟨rfl, acc, cnt, b, v, xs, hc, he, hi⟩
        have r0 := hi.r0; have r4 := hi.r4; have r5 := hi.r5; have r6 := hi.r6; have r7 := hi.r7
        have hl := hi.len
        have h8 : ¬ (8 - (cnt : Int) < 0) := by omega
        simp -dsimp (disch := omega) only [go_sem, ↓reduceIte, Nat.reduceAdd, Nat.reduceSub, Nat.reduceMul, Nat.reduceLeDiff, Nat.reduceLT, Nat.reduceEqDiff, Nat.reduceBEq, Int.reduceEq, Int.reduceLT, Int.reduceLE, Int.reduceNeg, Int.reduceAdd, Int.reduceSub, Int.reduceMul, beq_self_eq_true, gt_of r0, gt_of r4, gt_of r5, gt_of r6, gt_of r7]
        have hv : ∀ _ : Unit, _ := fun _ => left b acc cnt (by omega) hi.mod
        refine Runs.brd (fun c2 => ?_) (fun c2 => ?_) <;> simp -dsimp (disch := omega) only [go_sem, ↓reduceIte, Nat.reduceAdd, Nat.reduceSub, Nat.reduceMul, Nat.reduceLeDiff, Nat.reduceLT, Nat.reduceEqDiff, Nat.reduceBEq, Int.reduceEq, Int.reduceLT, Int.reduceLE, Int.reduceNeg, Int.reduceAdd, Int.reduceSub, Int.reduceMul, beq_self_eq_true, gt_of r0, gt_of r4, gt_of r5, gt_of r6, gt_of r7, h8, and255, hv ()]
        · refine Runs.app (app1i hi.sl hi.same.next _ (by omega)) (by simp only [get_put, ↓reduceIte, Nat.reduceEqDiff] <;> first | assumption | rfl) (by simp only [get_put, ↓reduceIte, Nat.reduceEqDiff] <;> first | assumption | rfl) ?_
          intro v' h4 ⟨a1, a2, _⟩
          simp -dsimp (disch := omega) only [go_sem, ↓reduceIte, Nat.reduceAdd, Nat.reduceSub, Nat.reduceMul, Nat.reduceLeDiff, Nat.reduceLT, Nat.reduceEqDiff, Nat.reduceBEq, Int.reduceEq, Int.reduceLT, Int.reduceLE, Int.reduceNeg, Int.reduceAdd, Int.reduceSub, Int.reduceMul, beq_self_eq_true, gt_of r0, gt_of r4, gt_of r5, gt_of r6, gt_of r7]
          refine Runs.ret (.inr ⟨v', n, rfl, by omega, hn, ?_, hi.same.trans a2, hb⟩)
          rw [go6, if_pos (by omega)] at he
          rw [← he]
          exact a1
        · refine Runs.ret (.inr ⟨v, n, rfl, by omega, hn, ?_, hi.same, hb⟩)
          rw [go6, if_neg (by omega), List.append_nil] at he
          rw [← he]
          exact hi.sl
end Go.Proofs.YtcnallabiffemaaGreatDoor.Vm
