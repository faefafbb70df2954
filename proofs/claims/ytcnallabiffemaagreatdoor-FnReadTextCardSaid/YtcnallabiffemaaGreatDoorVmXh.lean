/- A segment in a mode: run with letters. Conditions: fewer than 2000 characters. -/
import Derived.Test.YtcnallabiffemaaGreatDoorVmXg
set_option linter.unusedSimpArgs false
set_option linter.unusedVariables false
namespace Go.Proofs.YtcnallabiffemaaGreatDoor.Vm
open Go
attribute [local go_sem ↓] in_map63 in_ins63 in_lk63 onM_m
attribute [local go_sem] scalar_m kn_i ins1 ins2 ins3
set_option maxHeartbeats 4000000 in
set_option maxRecDepth 100000 in
theorem f12 {m mode b : Nat} {h : AH} {s : ByteArray} (hm : 40000 ≤ m) (hs : s.size < 2000) (hmode : mode < 6) (hb : b < 10000) :
    Runs (fun k => cl Tryz.prog (exec Tryz.prog m) false 12 (.c (.s s) (.c (.i .i64 (mode : Int)) (.c (.i .i64 (b : Int)) .e))) h k ⟨⟩) fun r h' =>
      ∃ (w : AV) (n : Nat) (ws : List Nat), r = .tu (.c w (.c (.i .i64 (n : Int)) .e)) ∧ n ≤ s.size ∧ SlN .i64 3 h.next h' w ws ∧ Same h.next h h' ∧ (n = 0 ∨ Seg mode b ((cs s).take n) ws) := by
  obtain ⟨m, rfl⟩ : ∃ n, m = n + 100 := ⟨m - 100, by omega⟩
  refine Runs.of_eq (fun k => cl_in Tryz.func12 rfl (by kernel_rfl) Tryz.ntmps12 Tryz.results12 rfl rfl _ _ _ _ _ _) ?_
  have hall : (cs s).take s.size = cs s := List.take_of_length_le (by rw [cs_len]; omega)
  simp -dsimp (disch := omega) only [go_sem, ↓reduceIte, Nat.reduceAdd, Nat.reduceSub, Nat.reduceMul, Nat.reduceLeDiff, Nat.reduceLT, Nat.reduceEqDiff, Nat.reduceBEq, Int.reduceEq, Int.reduceLT, Int.reduceLE, Int.reduceNeg, Int.reduceAdd, Int.reduceSub, Int.reduceMul, beq_self_eq_true]
  refine Runs.brd (fun c1 => ?_) (fun c1 => ?_) <;> simp -dsimp (disch := omega) only [go_sem, ↓reduceIte, Nat.reduceAdd, Nat.reduceSub, Nat.reduceMul, Nat.reduceLeDiff, Nat.reduceLT, Nat.reduceEqDiff, Nat.reduceBEq, Int.reduceEq, Int.reduceLT, Int.reduceLE, Int.reduceNeg, Int.reduceAdd, Int.reduceSub, Int.reduceMul, beq_self_eq_true]
  · refine Runs.bind (f13 (by omega) hs) ?_
    rintro _ h' ⟨w, rfl, a1, a2⟩
    simp -dsimp (disch := omega) only [go_sem, ↓reduceIte, Nat.reduceAdd, Nat.reduceSub, Nat.reduceMul, Nat.reduceLeDiff, Nat.reduceLT, Nat.reduceEqDiff, Nat.reduceBEq, Int.reduceEq, Int.reduceLT, Int.reduceLE, Int.reduceNeg, Int.reduceAdd, Int.reduceSub, Int.reduceMul, beq_self_eq_true]
    exact Runs.ret ⟨w, s.size, _, rfl, by omega, a1, a2, .inr (by rw [hall]; exact .inl ⟨by omega, rfl⟩)⟩
  · refine Runs.brd (fun c2 => ?_) (fun c2 => ?_) <;> simp -dsimp (disch := omega) only [go_sem, ↓reduceIte, Nat.reduceAdd, Nat.reduceSub, Nat.reduceMul, Nat.reduceLeDiff, Nat.reduceLT, Nat.reduceEqDiff, Nat.reduceBEq, Int.reduceEq, Int.reduceLT, Int.reduceLE, Int.reduceNeg, Int.reduceAdd, Int.reduceSub, Int.reduceMul, beq_self_eq_true]
    · refine Runs.bind (f27 (by omega) hs) ?_
      rintro _ h' (⟨rfl, rfl⟩ | ⟨w, n, rfl, n0, hn, a1, a2, hb⟩)
      · simp -dsimp (disch := omega) only [go_sem, ↓reduceIte, Nat.reduceAdd, Nat.reduceSub, Nat.reduceMul, Nat.reduceLeDiff, Nat.reduceLT, Nat.reduceEqDiff, Nat.reduceBEq, Int.reduceEq, Int.reduceLT, Int.reduceLE, Int.reduceNeg, Int.reduceAdd, Int.reduceSub, Int.reduceMul, beq_self_eq_true]
        exact Runs.ret ⟨.ns, 0, [], rfl, by omega, SlN.nil, Same.rfl', .inl rfl⟩
      · simp -dsimp (disch := omega) only [go_sem, ↓reduceIte, Nat.reduceAdd, Nat.reduceSub, Nat.reduceMul, Nat.reduceLeDiff, Nat.reduceLT, Nat.reduceEqDiff, Nat.reduceBEq, Int.reduceEq, Int.reduceLT, Int.reduceLE, Int.reduceNeg, Int.reduceAdd, Int.reduceSub, Int.reduceMul, beq_self_eq_true]
        refine Runs.ret ⟨w, n, _, rfl, by omega, a1, a2, .inr (.inr (.inl ⟨by omega, rfl, fun x hx => ?_⟩))⟩
        obtain ⟨j, hj, rfl⟩ := List.mem_take_iff_getElem.1 hx
        have := hb j (by omega)
        unfold bt at this
        rw [List.getD_eq_getElem?_getD, List.getElem?_eq_getElem (by omega)] at this
        exact this
    · refine Runs.brd (fun c3 => ?_) (fun c3 => ?_) <;> simp -dsimp (disch := omega) only [go_sem, ↓reduceIte, Nat.reduceAdd, Nat.reduceSub, Nat.reduceMul, Nat.reduceLeDiff, Nat.reduceLT, Nat.reduceEqDiff, Nat.reduceBEq, Int.reduceEq, Int.reduceLT, Int.reduceLE, Int.reduceNeg, Int.reduceAdd, Int.reduceSub, Int.reduceMul, beq_self_eq_true]
      · refine Runs.bind (f28 (by omega) hs hb) ?_
        rintro _ h' ⟨w, rfl, a1, a2⟩
        simp -dsimp (disch := omega) only [go_sem, ↓reduceIte, Nat.reduceAdd, Nat.reduceSub, Nat.reduceMul, Nat.reduceLeDiff, Nat.reduceLT, Nat.reduceEqDiff, Nat.reduceBEq, Int.reduceEq, Int.reduceLT, Int.reduceLE, Int.reduceNeg, Int.reduceAdd, Int.reduceSub, Int.reduceMul, beq_self_eq_true]
        exact Runs.ret ⟨w, s.size, _, rfl, by omega, a1, a2, .inr (by rw [hall]; exact .inr (.inr (.inl ⟨by omega, rfl⟩)))⟩
      · have hm3 : mode = 1 ∨ mode = 2 ∨ mode = 3 := by omega
        refine Runs.loop (loop_rule 15000 (fun i rg h' => ∃ p whole fits v xs, p + i = s.size ∧ T.get rg 38 = some (.i .i64 (s.size : Int)) ∧ T.get rg 39 = some (.i .i64 (p : Int)) ∧ InvT s mode h.next h rg h' p whole fits v xs)
          (Q := fun e rg h' => e = .exit 1 ∧ ∃ p whole fits v xs, p ≤ s.size ∧ InvT s mode h.next h rg h' p whole fits v xs) ?_ s.size _ _ _ (by omega) ⟨0, 0, 0, .ns, [], by omega, (by simp only [get_put, ↓reduceIte, Nat.reduceEqDiff] <;> first | assumption | rfl), (by simp only [get_put, ↓reduceIte, Nat.reduceEqDiff] <;> first | assumption | rfl), ⟨(by simp only [get_put, ↓reduceIte, Nat.reduceEqDiff] <;> first | assumption | rfl), (by simp only [get_put, ↓reduceIte, Nat.reduceEqDiff] <;> first | assumption | rfl), (by simp only [get_put, ↓reduceIte, Nat.reduceEqDiff] <;> first | assumption | rfl), (by simp only [get_put, ↓reduceIte, Nat.reduceEqDiff] <;> first | assumption | rfl), (by simp only [get_put, ↓reduceIte, Nat.reduceEqDiff] <;> first | assumption | rfl), SlN.nil, Same.rfl', rfl, rfl, by omega, by simp, by omega, by simp, by simp⟩⟩) ?_
        · rintro m i rg h' hm ⟨p, whole, fits, v, xs, pi, r38, r39, hi⟩
          obtain ⟨m, rfl⟩ : ∃ n, m = n + 100 := ⟨m - 100, by omega⟩
          have r0 := hi.r0; have r1 := hi.r1; have r8 := hi.r8; have r10 := hi.r10; have r11 := hi.r11
          have hl := hi.len
          simp -dsimp (disch := omega) only [go_sem, ↓reduceIte, Nat.reduceAdd, Nat.reduceSub, Nat.reduceMul, Nat.reduceLeDiff, Nat.reduceLT, Nat.reduceEqDiff, Nat.reduceBEq, Int.reduceEq, Int.reduceLT, Int.reduceLE, Int.reduceNeg, Int.reduceAdd, Int.reduceSub, Int.reduceMul, beq_self_eq_true, gt_of r0, gt_of r1, gt_of r8, gt_of r10, gt_of r11, gt_of r38, gt_of r39]
          refine RunsC.brd (fun d1 => ?_) (fun d1 => ?_) <;> simp -dsimp (disch := omega) only [go_sem, ↓reduceIte, Nat.reduceAdd, Nat.reduceSub, Nat.reduceMul, Nat.reduceLeDiff, Nat.reduceLT, Nat.reduceEqDiff, Nat.reduceBEq, Int.reduceEq, Int.reduceLT, Int.reduceLE, Int.reduceNeg, Int.reduceAdd, Int.reduceSub, Int.reduceMul, beq_self_eq_true, gt_of r0, gt_of r1, gt_of r8, gt_of r10, gt_of r11, gt_of r38, gt_of r39]
          · refine RunsC.bind (f29 (by omega) hmode (bt_lt s p)) ?_
            rintro _ h2 (⟨rfl, rfl⟩ | ⟨l, a1, a2, a3, a4⟩)
            · simp -dsimp (disch := omega) only [go_sem, ↓reduceIte, Nat.reduceAdd, Nat.reduceSub, Nat.reduceMul, Nat.reduceLeDiff, Nat.reduceLT, Nat.reduceEqDiff, Nat.reduceBEq, Int.reduceEq, Int.reduceLT, Int.reduceLE, Int.reduceNeg, Int.reduceAdd, Int.reduceSub, Int.reduceMul, beq_self_eq_true, gt_of r0, gt_of r1, gt_of r8, gt_of r10, gt_of r11, gt_of r38, gt_of r39]
              exact RunsC.leave ⟨rfl, p, whole, fits, v, xs, by omega, ⟨(by simp only [get_put, ↓reduceIte, Nat.reduceEqDiff] <;> first | assumption | rfl), (by simp only [get_put, ↓reduceIte, Nat.reduceEqDiff] <;> first | assumption | rfl), (by simp only [get_put, ↓reduceIte, Nat.reduceEqDiff] <;> first | assumption | rfl), (by simp only [get_put, ↓reduceIte, Nat.reduceEqDiff] <;> first | assumption | rfl), (by simp only [get_put, ↓reduceIte, Nat.reduceEqDiff] <;> first | assumption | rfl), hi.sl, hi.same, hi.all, hi.part, hi.hw, hi.hf, hi.h3, hi.len, hi.lt⟩⟩
            · rename_i u
              have hk := hi.sl.keep a2 (Nat.le_refl _)
              have hvl := a3.lt
              have hlt := hi.lt
              simp -dsimp (disch := omega) only [go_sem, ↓reduceIte, Nat.reduceAdd, Nat.reduceSub, Nat.reduceMul, Nat.reduceLeDiff, Nat.reduceLT, Nat.reduceEqDiff, Nat.reduceBEq, Int.reduceEq, Int.reduceLT, Int.reduceLE, Int.reduceNeg, Int.reduceAdd, Int.reduceSub, Int.reduceMul, beq_self_eq_true, gt_of r0, gt_of r1, gt_of r8, gt_of r10, gt_of r11, gt_of r38, gt_of r39, a1.sl.eqNil _ a4]
              refine RunsC.app (appN ty_el22 ty_os3 ty_z3 hk (Nat.le_trans hi.same.next a2.next) a1.sl (fun j h1 h2 => by have := hi.sl.sl.lt h1; have := a1.own j h2; omega) hvl.2.2 (by have := hvl.2.1; omega)) (by simp only [get_put, ↓reduceIte, Nat.reduceEqDiff] <;> first | assumption | rfl) (by simp only [get_put, ↓reduceIte, Nat.reduceEqDiff] <;> first | assumption | rfl) ?_
              rintro u' h3 ⟨b1, b2, _⟩
              have hll : (xs ++ l).length ≤ 2 * (p + 1) := by rw [List.length_append]; have := hvl.2.1; omega
              have hal : Trip mode ((cs s).take (p + 1)) (xs ++ l) := by rw [take_bt s p (by omega)]; exact hi.all.snoc a3
              have hle : ∀ x ∈ xs ++ l, x < 40 := fun x hx => by rw [List.mem_append] at hx; rcases hx with hx | hx; exact hlt x hx; exact hvl.1 x hx
              have hfx : fits ≤ (xs ++ l).length := by rw [List.length_append]; have := hi.hf; omega
              have hpt : (xs ++ l).take fits = xs.take fits := List.take_append_of_le_length hi.hf
              have hww := hi.hw
              have hsm := hi.same.trans (a2.less hi.same.next) |>.trans b2
              have hpart := hi.part
              have h33 := hi.h3
              rw [← hpt] at hpart
              generalize xs ++ l = ys at *
              simp -dsimp (disch := omega) only [go_sem, ↓reduceIte, Nat.reduceAdd, Nat.reduceSub, Nat.reduceMul, Nat.reduceLeDiff, Nat.reduceLT, Nat.reduceEqDiff, Nat.reduceBEq, Int.reduceEq, Int.reduceLT, Int.reduceLE, Int.reduceNeg, Int.reduceAdd, Int.reduceSub, Int.reduceMul, beq_self_eq_true, gt_of r0, gt_of r1, gt_of r8, gt_of r10, gt_of r11, gt_of r38, gt_of r39, b1.sl.ln22]
              refine RunsC.brd (fun d2 => ?_) (fun d2 => ?_) <;> simp -dsimp (disch := omega) only [go_sem, ↓reduceIte, Nat.reduceAdd, Nat.reduceSub, Nat.reduceMul, Nat.reduceLeDiff, Nat.reduceLT, Nat.reduceEqDiff, Nat.reduceBEq, Int.reduceEq, Int.reduceLT, Int.reduceLE, Int.reduceNeg, Int.reduceAdd, Int.reduceSub, Int.reduceMul, beq_self_eq_true, gt_of r0, gt_of r1, gt_of r8, gt_of r10, gt_of r11, gt_of r38, gt_of r39, b1.sl.ln22]
              · exact RunsC.again (s.size - (p + 1)) (by omega) ⟨p + 1, p + 1, ys.length, u', ys, by omega, (by simp only [get_put, ↓reduceIte, Nat.reduceEqDiff] <;> first | assumption | rfl), (by simp only [get_put, ↓reduceIte, Nat.reduceEqDiff] <;> first | assumption | rfl), ⟨(by simp only [get_put, ↓reduceIte, Nat.reduceEqDiff] <;> first | assumption | rfl), (by simp only [get_put, ↓reduceIte, Nat.reduceEqDiff] <;> first | assumption | rfl), (by simp only [get_put, ↓reduceIte, Nat.reduceEqDiff] <;> first | assumption | rfl), (by simp only [get_put, ↓reduceIte, Nat.reduceEqDiff] <;> first | assumption | rfl), (by simp only [get_put, ↓reduceIte, Nat.reduceEqDiff] <;> first | assumption | rfl), b1, hsm, hal, by rw [List.take_length]; exact hal, by omega, by omega, by omega, hll, hle⟩⟩
              · exact RunsC.again (s.size - (p + 1)) (by omega) ⟨p + 1, whole, fits, u', ys, by omega, (by simp only [get_put, ↓reduceIte, Nat.reduceEqDiff] <;> first | assumption | rfl), (by simp only [get_put, ↓reduceIte, Nat.reduceEqDiff] <;> first | assumption | rfl), ⟨(by simp only [get_put, ↓reduceIte, Nat.reduceEqDiff] <;> first | assumption | rfl), (by simp only [get_put, ↓reduceIte, Nat.reduceEqDiff] <;> first | assumption | rfl), (by simp only [get_put, ↓reduceIte, Nat.reduceEqDiff] <;> first | assumption | rfl), (by simp only [get_put, ↓reduceIte, Nat.reduceEqDiff] <;> first | assumption | rfl), (by simp only [get_put, ↓reduceIte, Nat.reduceEqDiff] <;> first | assumption | rfl), b1, hsm, hal, hpart, by omega, hfx, h33, hll, hle⟩⟩
          · exact RunsC.leave ⟨rfl, p, whole, fits, v, xs, by omega, ⟨(by simp only [get_put, ↓reduceIte, Nat.reduceEqDiff] <;> first | assumption | rfl), (by simp only [get_put, ↓reduceIte, Nat.reduceEqDiff] <;> first | assumption | rfl), (by simp only [get_put, ↓reduceIte, Nat.reduceEqDiff] <;> first | assumption | rfl), (by simp only [get_put, ↓reduceIte, Nat.reduceEqDiff] <;> first | assumption | rfl), (by simp only [get_put, ↓reduceIte, Nat.reduceEqDiff] <;> first | assumption | rfl), hi.sl, hi.same, hi.all, hi.part, hi.hw, hi.hf, hi.h3, hi.len, hi.lt⟩⟩
        · rintro _ rg h1 ⟨rfl, p, whole, fits, v, xs, hp, hi⟩
          have r0 := hi.r0; have r1 := hi.r1; have r8 := hi.r8; have r10 := hi.r10; have r11 := hi.r11
          have hl := hi.len
          simp -dsimp (disch := omega) only [go_sem, ↓reduceIte, Nat.reduceAdd, Nat.reduceSub, Nat.reduceMul, Nat.reduceLeDiff, Nat.reduceLT, Nat.reduceEqDiff, Nat.reduceBEq, Int.reduceEq, Int.reduceLT, Int.reduceLE, Int.reduceNeg, Int.reduceAdd, Int.reduceSub, Int.reduceMul, beq_self_eq_true, gt_of r0, gt_of r1, gt_of r8, gt_of r10, gt_of r11]
          refine Runs.brd (fun d1 => ?_) (fun d1 => ?_) <;> simp -dsimp (disch := omega) only [go_sem, ↓reduceIte, Nat.reduceAdd, Nat.reduceSub, Nat.reduceMul, Nat.reduceLeDiff, Nat.reduceLT, Nat.reduceEqDiff, Nat.reduceBEq, Int.reduceEq, Int.reduceLT, Int.reduceLE, Int.reduceNeg, Int.reduceAdd, Int.reduceSub, Int.reduceMul, beq_self_eq_true, gt_of r0, gt_of r1, gt_of r8, gt_of r10, gt_of r11, look _ _ _ _ _ mode hm3]
          · exact Runs.ret ⟨.ns, 0, [], rfl, by omega, SlN.nil, hi.same, .inl rfl⟩
          · have hlt := mem_lt (by omega) hi.lt
            have hff := hi.hf
            have h33 := hi.h3
            have hsl := hi.sl
            refine Runs.loop (loop_rule 12000 (fun i rg h3 => ∃ q u ys, q + i = fits ∧ q % 3 = 0 ∧ T.get rg 8 = some v ∧ T.get rg 10 = some (.i .i64 (whole : Int)) ∧ T.get rg 11 = some (.i .i64 (fits : Int)) ∧ T.get rg 14 = some u ∧ T.get rg 15 = some (.i .i64 (q : Int)) ∧
                SlN .i64 3 h1.next h3 u ys ∧ Same h1.next h1 h3 ∧ ys ++ pairs ((xs.take fits).drop q) = latch mode :: pairs (xs.take fits) ∧ ys.length ≤ q + 1)
              (Q := fun e rg h3 => e = .exit 3 ∧ ∃ u, T.get rg 10 = some (.i .i64 (whole : Int)) ∧ T.get rg 14 = some u ∧ SlN .i64 3 h1.next h3 u (latch mode :: pairs (xs.take fits)) ∧ Same h1.next h1 h3 ∧ (latch mode :: pairs (xs.take fits)).length ≤ fits + 1) ?_ fits _ _ _ (by omega)
              ⟨0, .sl (h1.next + 1) 0 1 1, [latch mode], by omega, by omega, (by simp only [get_put, ↓reduceIte, Nat.reduceEqDiff] <;> first | assumption | rfl), (by simp only [get_put, ↓reduceIte, Nat.reduceEqDiff] <;> first | assumption | rfl), (by simp only [get_put, ↓reduceIte, Nat.reduceEqDiff] <;> first | assumption | rfl), (by simp only [get_put, ↓reduceIte, Nat.reduceEqDiff] <;> first | assumption | rfl), (by simp only [get_put, ↓reduceIte, Nat.reduceEqDiff] <;> first | assumption | rfl), (lit1i _ _ _).less (Nat.le_succ _), ⟨?_, fun j hj => ?_⟩, by simp, by simp⟩) ?_
            · rintro m i rg h3 hm ⟨q, u, ys, qi, q3, r8, r10, r11, r14, r15, sl, sm, he, hx⟩
              obtain ⟨m, rfl⟩ : ∃ n, m = n + 100 := ⟨m - 100, by omega⟩
              have hv := (hsl.keep sm (Nat.le_refl _)).sl
              have hx1 := hlt q; have hx2 := hlt (q + 1); have hx3 := hlt (q + 2)
              simp -dsimp (disch := omega) only [go_sem, ↓reduceIte, Nat.reduceAdd, Nat.reduceSub, Nat.reduceMul, Nat.reduceLeDiff, Nat.reduceLT, Nat.reduceEqDiff, Nat.reduceBEq, Int.reduceEq, Int.reduceLT, Int.reduceLE, Int.reduceNeg, Int.reduceAdd, Int.reduceSub, Int.reduceMul, beq_self_eq_true, gt_of r8, gt_of r10, gt_of r11, gt_of r14, gt_of r15]
              refine RunsC.brd (fun d2 => ?_) (fun d2 => ?_) <;> simp -dsimp (disch := omega) only [go_sem, ↓reduceIte, Nat.reduceAdd, Nat.reduceSub, Nat.reduceMul, Nat.reduceLeDiff, Nat.reduceLT, Nat.reduceEqDiff, Nat.reduceBEq, Int.reduceEq, Int.reduceLT, Int.reduceLE, Int.reduceNeg, Int.reduceAdd, Int.reduceSub, Int.reduceMul, beq_self_eq_true, gt_of r8, gt_of r10, gt_of r11, gt_of r14, gt_of r15]
              · refine RunsC.draw (by rfl) (by rfl) (by kernel_rfl) ?_
                simp -dsimp (disch := omega) only [go_sem, ↓reduceIte, Nat.reduceAdd, Nat.reduceSub, Nat.reduceMul, Nat.reduceLeDiff, Nat.reduceLT, Nat.reduceEqDiff, Nat.reduceBEq, Int.reduceEq, Int.reduceLT, Int.reduceLE, Int.reduceNeg, Int.reduceAdd, Int.reduceSub, Int.reduceMul, beq_self_eq_true, gt_of r8, gt_of r10, gt_of r11, gt_of r14, gt_of r15, hv.ix, hv.ld]
                refine RunsC.app (app2i sl sm.next _ _ (by omega)) (by simp only [get_put, ↓reduceIte, Nat.reduceEqDiff] <;> first | assumption | rfl) (by simp only [get_put, ↓reduceIte, Nat.reduceEqDiff] <;> first | assumption | rfl) ?_
                rintro u' h4 ⟨b1, b2, _⟩
                simp -dsimp (disch := omega) only [go_sem, ↓reduceIte, Nat.reduceAdd, Nat.reduceSub, Nat.reduceMul, Nat.reduceLeDiff, Nat.reduceLT, Nat.reduceEqDiff, Nat.reduceBEq, Int.reduceEq, Int.reduceLT, Int.reduceLE, Int.reduceNeg, Int.reduceAdd, Int.reduceSub, Int.reduceMul, beq_self_eq_true, gt_of r8, gt_of r10, gt_of r11, gt_of r14, gt_of r15]
                refine RunsC.again (fits - (q + 3)) (by omega) ⟨q + 3, u', _, by omega, by omega, (by simp only [get_put, ↓reduceIte, Nat.reduceEqDiff] <;> first | assumption | rfl), (by simp only [get_put, ↓reduceIte, Nat.reduceEqDiff] <;> first | assumption | rfl), (by simp only [get_put, ↓reduceIte, Nat.reduceEqDiff] <;> first | assumption | rfl), (by simp only [get_put, ↓reduceIte, Nat.reduceEqDiff] <;> first | assumption | rfl), (by simp only [get_put, ↓reduceIte, Nat.reduceEqDiff] <;> first | assumption | rfl), b1, sm.trans b2, ?_, ?_⟩
                · have hL : (xs.take fits).length = fits := by rw [List.length_take]; omega
                  rw [drop_getD _ q (by omega), drop_getD _ (q + 1) (by omega), drop_getD _ (q + 1 + 1) (by omega), getD_take _ _ _ (by omega), getD_take _ _ _ (by omega), getD_take _ _ _ (by omega), pairs] at he
                  rw [List.append_assoc, ← he]
                  rfl
                · rw [List.length_append]; simp; omega
              · obtain rfl : q = fits := by omega
                rw [List.drop_eq_nil_of_le (by rw [List.length_take]; omega), pairs, List.append_nil] at he
                · rw [← he]
                  exact RunsC.leave ⟨rfl, u, (by simp only [get_put, ↓reduceIte, Nat.reduceEqDiff] <;> first | assumption | rfl), (by simp only [get_put, ↓reduceIte, Nat.reduceEqDiff] <;> first | assumption | rfl), sl, sm, hx⟩
                · simp
            · show h1.next ≤ h1.next + 1 + 1
              omega
            · show T.get (T.put (T.put (T.put (T.put (T.put h1.objs h1.next _) h1.next _) h1.next _) h1.next _) (h1.next + 1) _) j = _
              simp only [get_put]
              repeat rw [if_neg (by omega)]
            · rintro _ rg h3 ⟨rfl, u, r10, r14, sl, sm, hx⟩
              simp -dsimp (disch := omega) only [go_sem, ↓reduceIte, Nat.reduceAdd, Nat.reduceSub, Nat.reduceMul, Nat.reduceLeDiff, Nat.reduceLT, Nat.reduceEqDiff, Nat.reduceBEq, Int.reduceEq, Int.reduceLT, Int.reduceLE, Int.reduceNeg, Int.reduceAdd, Int.reduceSub, Int.reduceMul, beq_self_eq_true, gt_of r10, gt_of r14]
              refine Runs.app (app1i sl sm.next 254 (by omega)) (by simp only [get_put, ↓reduceIte, Nat.reduceEqDiff] <;> first | assumption | rfl) (by simp only [get_put, ↓reduceIte, Nat.reduceEqDiff] <;> first | assumption | rfl) ?_
              rintro u' h4 ⟨b1, b2, _⟩
              simp -dsimp (disch := omega) only [go_sem, ↓reduceIte, Nat.reduceAdd, Nat.reduceSub, Nat.reduceMul, Nat.reduceLeDiff, Nat.reduceLT, Nat.reduceEqDiff, Nat.reduceBEq, Int.reduceEq, Int.reduceLT, Int.reduceLE, Int.reduceNeg, Int.reduceAdd, Int.reduceSub, Int.reduceMul, beq_self_eq_true, gt_of r10]
              have hff' : (xs.take fits).length = fits := by rw [List.length_take]; omega
              exact Runs.ret ⟨u', whole, _, rfl, by have := hi.hw; omega, b1.less hi.same.next, hi.same.trans ((sm.trans b2).less hi.same.next), .inr (.inr (.inr (.inr ⟨hm3, xs.take fits, hi.part, by rw [hff']; exact h33, fun e => by rw [e] at hff'; simp at hff'; omega, by unfold encT; simp⟩)))⟩
end Go.Proofs.YtcnallabiffemaaGreatDoor.Vm
