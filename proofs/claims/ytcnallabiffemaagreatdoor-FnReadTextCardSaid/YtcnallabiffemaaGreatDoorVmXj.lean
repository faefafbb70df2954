/- Pads behind codewords, octets, and which texts are plain: run with letters. Conditions: fewer than 20000 numbers. -/
import Derived.Test.YtcnallabiffemaaGreatDoorVmXi
set_option linter.unusedSimpArgs false
set_option linter.unusedVariables false
namespace Go.Proofs.YtcnallabiffemaaGreatDoor.Vm
open Go
theorem app0i {m : Nat} {ob : T AO} {nx : Nat} {x : AV} {ys : List Nat} (hm : m ≤ nx) (hx : Sl .i64 3 ⟨ob, nx⟩ x ys) (hy : ys ≠ []) (hlen : ys.length < 100000) :
    Apd ⟨T.put ob nx (.cells 3 0 (T.full (some (.i .i64 0)) depthC)), nx + 1⟩ 22 (.sl nx 0 0 0) x fun v h' => SlN .i64 3 m h' v ys ∧ Same nx ⟨ob, nx⟩ h' := by
  have hs : SlN .i64 3 nx ⟨T.put ob nx (.cells 3 0 (T.full (some (.i .i64 0)) depthC)), nx + 1⟩ (.sl nx 0 0 0) [] :=
    ⟨.sl nx 0 _ [] (Nat.lt_succ_self _) (by simp only [get_put, if_true]; rfl) (Has.nil _ _) (Nat.le_refl _), fun j hj => by cases hj; exact Nat.le_refl _⟩
  have hx' : Sl .i64 3 ⟨T.put ob nx (.cells 3 0 (T.full (some (.i .i64 0)) depthC)), nx + 1⟩ x ys := hx.keep (Nat.le_succ _) fun j hj => (Same.new ob nx _).get j (hx.lt hj)
  obtain ⟨v, h', h1, h2, h3, h4⟩ := appN ty_el22 ty_os3 ty_z3 hs (Nat.le_succ _) hx' (fun j h1 h2 => by have := hx.lt h2; cases h1; exact absurd this (Nat.lt_irrefl _)) hy (by simpa using hlen)
  exact ⟨v, h', h1, h2.less hm, (Same.new ob nx _).trans h3⟩
theorem ty_fo27 : fieldOff Tryz.prog 27 4 = some 4 := by kernel_rfl
theorem in_fo27 (rg : T AV) (k : AV → R) (x : Operand) : pField Tryz.prog rg k 27 x 4 = oe rg x fun v => onP v fun id off => k (.p id (off + 4)) := pField_n _ _ _ _ _ _ _ ty_fo27
/-- Numbers laid in a row. -/
noncomputable def lay (cs : T AV) (off : Nat) : List Nat → T AV
  | [] => cs
  | x :: l => lay (T.put cs off (.i .i64 (x : Int))) (off + 1) l
theorem putL_lay : ∀ (l : List Nat) (cs : T AV) (off : Nat) (k : T AV → Nat → R), putL (numL .i64 l) cs off k = k (lay cs off l) (off + l.length)
  | [], cs, off, k => rfl
  | x :: l, cs, off, k => by
    show T.setK cs off (.i .i64 (x : Int)) (fun cs => forceN (Nat.succ off) fun off => putL (numL .i64 l) cs off k) = _
    rw [setK_put, forceN_eq, putL_lay l]
    show k _ (off + 1 + l.length) = k _ (off + (l.length + 1))
    rw [show off + 1 + l.length = off + (l.length + 1) by omega]
    rfl
theorem get_lay : ∀ (l : List Nat) (cs : T AV) (off j : Nat), T.get (lay cs off l) j = if off ≤ j ∧ j < off + l.length then some (.i .i64 (l.getD (j - off) 0 : Int)) else T.get cs j
  | [], cs, off, j => by
    rw [lay, if_neg]
    simp
  | x :: l, cs, off, j => by
    rw [lay, get_lay l, get_put]
    by_cases h : j = off
    · subst h
      rw [if_neg (by omega), if_pos rfl, if_pos (by simp), Nat.sub_self]
      rfl
    · by_cases h2 : off ≤ j ∧ j < off + (x :: l).length
      · rw [if_pos h2, if_pos (by simp only [List.length_cons] at h2; omega), show j - off = (j - (off + 1)) + 1 by omega]
        rfl
      · rw [if_neg h2, if_neg (by simp only [List.length_cons] at h2; omega), if_neg h]
theorem onBox_ag (l : AV) (f : AV → R) (g : R) : onBox (.ag l) f g = f l := nrfl rfl
attribute [go_sem ↓] in_fo27 onBox_ag putL_lay
theorem fill_lt (p : Nat) : pad p < 256 := by
  have := rand_le p 253 (by omega)
  unfold pad
  split <;> omega
structure InvF (data : AV) (ys : List Nat) (bx m0 : Nat) (h0 : AH) (rg : T AV) (h : AH) (v : AV) (xs : List Nat) : Prop where
  r1 : T.get rg 1 = some data
  r2 : T.get rg 2 = some (.p bx 0)
  r5 : T.get rg 5 = some v
  sl : SlN .i64 3 m0 h v xs
  same : Same m0 h0 h
  tail : xs = ys ∨ ∃ rest, xs = ys ++ 129 :: rest ∧ ∀ x ∈ rest, x < 256
set_option maxHeartbeats 4000000 in
set_option maxRecDepth 100000 in
theorem f9 {m : Nat} {h : AH} {data : AV} {ys r : List Nat} (hm : 30000 ≤ m) (hr : r.length = 7) (hD : r.getD 4 0 < 3000) (hd : Sl .i64 3 h data ys) (hy : ys ≠ []) (hlt : ys.length < r.getD 4 0) :
    Runs (fun k => cl Tryz.prog (exec Tryz.prog m) false 9 (.c (.ag (numL .i64 r)) (.c data .e)) h k ⟨⟩) fun w h' => ∃ rest, SlN .i64 3 h.next h' w (ys ++ 129 :: rest) ∧ Same h.next h h' ∧ (ys ++ 129 :: rest).length = r.getD 4 0 ∧ ∀ x ∈ rest, x < 256 := by
  obtain ⟨m, rfl⟩ : ∃ n, m = n + 100 := ⟨m - 100, by omega⟩
  refine Runs.of_eq (fun k => cl_in Tryz.func9 rfl (by kernel_rfl) Tryz.ntmps9 Tryz.results9 rfl rfl _ _ _ _ _ _) ?_
  simp -dsimp (disch := omega) only [go_sem, ↓reduceIte, Nat.reduceAdd, Nat.reduceSub, Nat.reduceMul, Nat.reduceLeDiff, Nat.reduceLT, Nat.reduceEqDiff, Nat.reduceBEq, Int.reduceEq, Int.reduceLT, Int.reduceLE, Int.reduceNeg, Int.reduceAdd, Int.reduceSub, Int.reduceMul, beq_self_eq_true]
  have hl : ys.length < 100000 := by omega
  refine Runs.app (app0i (m := h.next + 1) (Nat.le_refl _) (hd.keep (Nat.le_succ _) fun j hj => (Same.new h.objs h.next _).get j (hd.lt hj)) hy hl) (by simp only [get_put, ↓reduceIte, Nat.reduceEqDiff] <;> first | assumption | rfl) (by simp only [get_put, ↓reduceIte, Nat.reduceEqDiff] <;> first | assumption | rfl) ?_
  rintro v h2 ⟨a1, a2⟩
  have hbox : T.get h2.objs h.next = some (.cells 27 7 (lay (T.full none depthC) 0 r)) := by
    rw [a2.get h.next (Nat.lt_succ_self _)]
    simp only [get_put, if_true]
    rw [hr]
  simp -dsimp (disch := omega) only [go_sem, ↓reduceIte, Nat.reduceAdd, Nat.reduceSub, Nat.reduceMul, Nat.reduceLeDiff, Nat.reduceLT, Nat.reduceEqDiff, Nat.reduceBEq, Int.reduceEq, Int.reduceLT, Int.reduceLE, Int.reduceNeg, Int.reduceAdd, Int.reduceSub, Int.reduceMul, beq_self_eq_true]
  refine Runs.loop (loop_rule 15000 (fun i rg h' => ∃ v xs, xs.length + i = r.getD 4 0 ∧ InvF data ys h.next (h.next + 1) h2 rg h' v xs)
    (Q := fun e rg h' => e = .exit 0 ∧ ∃ v xs, xs.length = r.getD 4 0 ∧ InvF data ys h.next (h.next + 1) h2 rg h' v xs) ?_ (r.getD 4 0 - ys.length) _ _ _ (by omega) ⟨v, ys, by omega, ⟨(by simp only [get_put, ↓reduceIte, Nat.reduceEqDiff] <;> first | assumption | rfl), (by simp only [get_put, ↓reduceIte, Nat.reduceEqDiff] <;> first | assumption | rfl), (by simp only [get_put, ↓reduceIte, Nat.reduceEqDiff] <;> first | assumption | rfl), a1, Same.rfl', .inl rfl⟩⟩) ?_
  · rintro m i rg h' hm ⟨v, xs, xi, hi⟩
    obtain ⟨m, rfl⟩ : ∃ n, m = n + 100 := ⟨m - 100, by omega⟩
    have r1 := hi.r1; have r2 := hi.r2; have r5 := hi.r5
    have hb : T.get h'.objs h.next = some (.cells 27 7 (lay (T.full none depthC) 0 r)) := by rw [hi.same.get _ (Nat.lt_succ_self _), hbox]
    have hld : ∀ k w, ld h' (.p h.next 4) k w = k (.i .i64 (r.getD 4 0 : Int)) := fun k w => ld_p k h' h.next 4 w _ hb _ (by rw [at_cells, if_pos (by omega), get_lay, if_pos (by omega)])
    have hn : h.next + 1 ≤ h2.next := a2.next
    have hdl := hd.keep (h' := h') (by have := hi.same.next; omega) (fun j hj => by have := hd.lt hj; rw [hi.same.get j (by omega), a2.get j (by show j < h.next + 1; omega)]; simp only [get_put]; rw [if_neg (by omega)])
    simp -dsimp (disch := omega) only [go_sem, ↓reduceIte, Nat.reduceAdd, Nat.reduceSub, Nat.reduceMul, Nat.reduceLeDiff, Nat.reduceLT, Nat.reduceEqDiff, Nat.reduceBEq, Int.reduceEq, Int.reduceLT, Int.reduceLE, Int.reduceNeg, Int.reduceAdd, Int.reduceSub, Int.reduceMul, beq_self_eq_true, gt_of r1, gt_of r2, gt_of r5, hi.sl.sl.ln22, hld]
    refine RunsC.brd (fun c1 => ?_) (fun c1 => ?_) <;> simp -dsimp (disch := omega) only [go_sem, ↓reduceIte, Nat.reduceAdd, Nat.reduceSub, Nat.reduceMul, Nat.reduceLeDiff, Nat.reduceLT, Nat.reduceEqDiff, Nat.reduceBEq, Int.reduceEq, Int.reduceLT, Int.reduceLE, Int.reduceNeg, Int.reduceAdd, Int.reduceSub, Int.reduceMul, beq_self_eq_true, gt_of r1, gt_of r2, gt_of r5, hi.sl.sl.ln22, hdl.ln22]
    · refine RunsC.brd (fun c2 => ?_) (fun c2 => ?_) <;> simp -dsimp (disch := omega) only [go_sem, ↓reduceIte, Nat.reduceAdd, Nat.reduceSub, Nat.reduceMul, Nat.reduceLeDiff, Nat.reduceLT, Nat.reduceEqDiff, Nat.reduceBEq, Int.reduceEq, Int.reduceLT, Int.reduceLE, Int.reduceNeg, Int.reduceAdd, Int.reduceSub, Int.reduceMul, beq_self_eq_true, gt_of r1, gt_of r2, gt_of r5, hi.sl.sl.ln22]
      · refine RunsC.app (app1i hi.sl (by have := hi.same.next; omega) 129 (by omega)) (by simp only [get_put, ↓reduceIte, Nat.reduceEqDiff] <;> first | assumption | rfl) (by simp only [get_put, ↓reduceIte, Nat.reduceEqDiff] <;> first | assumption | rfl) ?_
        rintro v' h3 ⟨b1, b2, _⟩
        simp -dsimp (disch := omega) only [go_sem, ↓reduceIte, Nat.reduceAdd, Nat.reduceSub, Nat.reduceMul, Nat.reduceLeDiff, Nat.reduceLT, Nat.reduceEqDiff, Nat.reduceBEq, Int.reduceEq, Int.reduceLT, Int.reduceLE, Int.reduceNeg, Int.reduceAdd, Int.reduceSub, Int.reduceMul, beq_self_eq_true, gt_of r1, gt_of r2, gt_of r5]
        refine RunsC.again (i - 1) (by omega) ⟨v', _, by rw [List.length_append, List.length_singleton]; omega, ⟨(by simp only [get_put, ↓reduceIte, Nat.reduceEqDiff] <;> first | assumption | rfl), (by simp only [get_put, ↓reduceIte, Nat.reduceEqDiff] <;> first | assumption | rfl), (by simp only [get_put, ↓reduceIte, Nat.reduceEqDiff] <;> first | assumption | rfl), b1, hi.same.trans b2, .inr ⟨[], ?_, by simp⟩⟩⟩
        rcases hi.tail with e | ⟨rest, e, _⟩
        · rw [e]
        · rw [e, List.length_append, List.length_cons] at c2; omega
      · refine RunsC.bind (f20 (by omega) (by omega)) ?_
        rintro _ h3 ⟨rfl, rfl⟩
        simp -dsimp (disch := omega) only [go_sem, ↓reduceIte, Nat.reduceAdd, Nat.reduceSub, Nat.reduceMul, Nat.reduceLeDiff, Nat.reduceLT, Nat.reduceEqDiff, Nat.reduceBEq, Int.reduceEq, Int.reduceLT, Int.reduceLE, Int.reduceNeg, Int.reduceAdd, Int.reduceSub, Int.reduceMul, beq_self_eq_true, gt_of r1, gt_of r2, gt_of r5]
        refine RunsC.app (app1i hi.sl (by have := hi.same.next; omega) _ (by omega)) (by simp only [get_put, ↓reduceIte, Nat.reduceEqDiff] <;> first | assumption | rfl) (by simp only [get_put, ↓reduceIte, Nat.reduceEqDiff] <;> first | assumption | rfl) ?_
        rintro v' h4 ⟨b1, b2, _⟩
        simp -dsimp (disch := omega) only [go_sem, ↓reduceIte, Nat.reduceAdd, Nat.reduceSub, Nat.reduceMul, Nat.reduceLeDiff, Nat.reduceLT, Nat.reduceEqDiff, Nat.reduceBEq, Int.reduceEq, Int.reduceLT, Int.reduceLE, Int.reduceNeg, Int.reduceAdd, Int.reduceSub, Int.reduceMul, beq_self_eq_true, gt_of r1, gt_of r2, gt_of r5]
        refine RunsC.again (i - 1) (by omega) ⟨v', _, by rw [List.length_append, List.length_singleton]; omega, ⟨(by simp only [get_put, ↓reduceIte, Nat.reduceEqDiff] <;> first | assumption | rfl), (by simp only [get_put, ↓reduceIte, Nat.reduceEqDiff] <;> first | assumption | rfl), (by simp only [get_put, ↓reduceIte, Nat.reduceEqDiff] <;> first | assumption | rfl), b1, hi.same.trans b2, ?_⟩⟩
        rcases hi.tail with e | ⟨rest, e, e2⟩
        · rw [e] at c2; omega
        · refine .inr ⟨rest ++ [pad (xs.length + 1)], by rw [e]; simp, fun x hx => ?_⟩
          rw [List.mem_append, List.mem_singleton] at hx
          rcases hx with hx | rfl
          · exact e2 x hx
          · exact fill_lt _
    · exact RunsC.leave ⟨rfl, v, xs, by omega, ⟨(by simp only [get_put, ↓reduceIte, Nat.reduceEqDiff] <;> first | assumption | rfl), (by simp only [get_put, ↓reduceIte, Nat.reduceEqDiff] <;> first | assumption | rfl), (by simp only [get_put, ↓reduceIte, Nat.reduceEqDiff] <;> first | assumption | rfl), hi.sl, hi.same, hi.tail⟩⟩
  · rintro _ rg h' ⟨rfl, v, xs, hx, hi⟩
    have r5 := hi.r5
    simp -dsimp (disch := omega) only [go_sem, ↓reduceIte, Nat.reduceAdd, Nat.reduceSub, Nat.reduceMul, Nat.reduceLeDiff, Nat.reduceLT, Nat.reduceEqDiff, Nat.reduceBEq, Int.reduceEq, Int.reduceLT, Int.reduceLE, Int.reduceNeg, Int.reduceAdd, Int.reduceSub, Int.reduceMul, beq_self_eq_true, gt_of r5]
    have hn : h.next + 1 ≤ h2.next := a2.next
    rcases hi.tail with e | ⟨rest, e, e2⟩
    · rw [e] at hx; omega
    · refine Runs.ret ⟨rest, by rw [← e]; exact hi.sl.less (Nat.le_succ _), ⟨by have := hi.same.next; omega, fun j hj => ?_⟩, by rw [← e]; exact hx, e2⟩
      rw [hi.same.get j (by omega), a2.get j (by show j < h.next + 1; omega)]
      simp only [get_put]
      rw [if_neg (by omega)]
set_option maxHeartbeats 4000000 in
set_option maxRecDepth 100000 in
theorem f15 {m : Nat} {h : AH} {data : AV} {ys : List Nat} (hm : 30000 ≤ m) (hd : Sl .i64 3 h data ys) (hlen : ys.length < 5000) (hlt : ∀ x ∈ ys, x < 256) :
    Runs (fun k => cl Tryz.prog (exec Tryz.prog m) false 15 (.c data .e) h k ⟨⟩) fun w h' => ∃ u, w = .tu (.c u (.c (.b true) .e)) ∧ SlN .u8 5 h.next h' u ys ∧ Same h.next h h' := by
  obtain ⟨m, rfl⟩ : ∃ n, m = n + 100 := ⟨m - 100, by omega⟩
  refine Runs.of_eq (fun k => cl_in Tryz.func15 rfl (by kernel_rfl) Tryz.ntmps15 Tryz.results15 rfl rfl _ _ _ _ _ _) ?_
  simp -dsimp (disch := omega) only [go_sem, ↓reduceIte, Nat.reduceAdd, Nat.reduceSub, Nat.reduceMul, Nat.reduceLeDiff, Nat.reduceLT, Nat.reduceEqDiff, Nat.reduceBEq, Int.reduceEq, Int.reduceLT, Int.reduceLE, Int.reduceNeg, Int.reduceAdd, Int.reduceSub, Int.reduceMul, beq_self_eq_true, hd.ln22]
  refine Runs.loop (loop_rule 15000 (fun i rg h' => ∃ p v, p + i = ys.length ∧ T.get rg 7 = some data ∧ T.get rg 8 = some (.i .i64 (ys.length : Int)) ∧ T.get rg 9 = some (.i .i64 (p : Int)) ∧ T.get rg 4 = some v ∧ SlN .u8 5 h.next h' v (ys.take p) ∧ Same h.next h h')
    (Q := fun e rg h' => e = .exit 0 ∧ ∃ v, T.get rg 4 = some v ∧ SlN .u8 5 h.next h' v ys ∧ Same h.next h h') ?_ ys.length _ _ _ (by omega) ⟨0, .ns, by omega, (by simp only [get_put, ↓reduceIte, Nat.reduceEqDiff] <;> first | assumption | rfl), (by simp only [get_put, ↓reduceIte, Nat.reduceEqDiff] <;> first | assumption | rfl), (by simp only [get_put, ↓reduceIte, Nat.reduceEqDiff] <;> first | assumption | rfl), (by simp only [get_put, ↓reduceIte, Nat.reduceEqDiff] <;> first | assumption | rfl), SlN.nil, Same.rfl'⟩) ?_
  · rintro m i rg h' hm ⟨p, v, pi, r7, r8, r9, r4, sl, sm⟩
    obtain ⟨m, rfl⟩ : ∃ n, m = n + 100 := ⟨m - 100, by omega⟩
    have hdl := hd.keep sm.next fun j hj => sm.get j (hd.lt hj)
    have hb := mem_lt (by omega) hlt p
    simp -dsimp (disch := omega) only [go_sem, ↓reduceIte, Nat.reduceAdd, Nat.reduceSub, Nat.reduceMul, Nat.reduceLeDiff, Nat.reduceLT, Nat.reduceEqDiff, Nat.reduceBEq, Int.reduceEq, Int.reduceLT, Int.reduceLE, Int.reduceNeg, Int.reduceAdd, Int.reduceSub, Int.reduceMul, beq_self_eq_true, gt_of r4, gt_of r7, gt_of r8, gt_of r9]
    refine RunsC.brd (fun c1 => ?_) (fun c1 => ?_) <;> simp -dsimp (disch := omega) only [go_sem, ↓reduceIte, Nat.reduceAdd, Nat.reduceSub, Nat.reduceMul, Nat.reduceLeDiff, Nat.reduceLT, Nat.reduceEqDiff, Nat.reduceBEq, Int.reduceEq, Int.reduceLT, Int.reduceLE, Int.reduceNeg, Int.reduceAdd, Int.reduceSub, Int.reduceMul, beq_self_eq_true, gt_of r4, gt_of r7, gt_of r8, gt_of r9, hdl.ix, hdl.ld]
    · have z1 : ¬ ((ys.getD p 0 : Nat) : Int) < 0 := by omega
      have z2 : ¬ 255 < ((ys.getD p 0 : Nat) : Int) := by omega
      simp -dsimp (disch := omega) only [go_sem, ↓reduceIte, Nat.reduceAdd, Nat.reduceSub, Nat.reduceMul, Nat.reduceLeDiff, Nat.reduceLT, Nat.reduceEqDiff, Nat.reduceBEq, Int.reduceEq, Int.reduceLT, Int.reduceLE, Int.reduceNeg, Int.reduceAdd, Int.reduceSub, Int.reduceMul, beq_self_eq_true, gt_of r4, gt_of r7, gt_of r8, gt_of r9, z1, z2]
      refine RunsC.app (app1b sl sm.next _ (by rw [List.length_take]; omega)) (by simp only [get_put, ↓reduceIte, Nat.reduceEqDiff] <;> first | assumption | rfl) (by simp only [get_put, ↓reduceIte, Nat.reduceEqDiff] <;> first | assumption | rfl) ?_
      rintro v' h4 ⟨b1, b2, _⟩
      simp -dsimp (disch := omega) only [go_sem, ↓reduceIte, Nat.reduceAdd, Nat.reduceSub, Nat.reduceMul, Nat.reduceLeDiff, Nat.reduceLT, Nat.reduceEqDiff, Nat.reduceBEq, Int.reduceEq, Int.reduceLT, Int.reduceLE, Int.reduceNeg, Int.reduceAdd, Int.reduceSub, Int.reduceMul, beq_self_eq_true, gt_of r4, gt_of r7, gt_of r8, gt_of r9]
      refine RunsC.again (ys.length - (p + 1)) (by omega) ⟨p + 1, v', by omega, (by simp only [get_put, ↓reduceIte, Nat.reduceEqDiff] <;> first | assumption | rfl), (by simp only [get_put, ↓reduceIte, Nat.reduceEqDiff] <;> first | assumption | rfl), (by simp only [get_put, ↓reduceIte, Nat.reduceEqDiff] <;> first | assumption | rfl), (by simp only [get_put, ↓reduceIte, Nat.reduceEqDiff] <;> first | assumption | rfl), ?_, sm.trans b2⟩
      rw [List.take_add_one, List.getElem?_eq_getElem (by omega)]
      rw [List.getD_eq_getElem?_getD, List.getElem?_eq_getElem (by omega)] at b1
      exact b1
    · obtain rfl : p = ys.length := by omega
      rw [List.take_length] at sl
      exact RunsC.leave ⟨rfl, v, (by simp only [get_put, ↓reduceIte, Nat.reduceEqDiff] <;> first | assumption | rfl), sl, sm⟩
  · rintro _ rg h' ⟨rfl, v, r4, sl, sm⟩
    simp -dsimp (disch := omega) only [go_sem, ↓reduceIte, Nat.reduceAdd, Nat.reduceSub, Nat.reduceMul, Nat.reduceLeDiff, Nat.reduceLT, Nat.reduceEqDiff, Nat.reduceBEq, Int.reduceEq, Int.reduceLT, Int.reduceLE, Int.reduceNeg, Int.reduceAdd, Int.reduceSub, Int.reduceMul, beq_self_eq_true, gt_of r4]
    exact Runs.ret ⟨v, rfl, sl, sm⟩
end Go.Proofs.YtcnallabiffemaaGreatDoor.Vm
