/- Which texts are plain, and the sizes of symbols: run with letters. Conditions: none. -/
import Derived.Test.YtcnallabiffemaaGreatDoorVmXj
set_option linter.unusedSimpArgs false
set_option linter.unusedVariables false
namespace Go.Proofs.YtcnallabiffemaaGreatDoor.Vm
open Go
def symL : List Nat := [10, 10, 1, 1, 3, 5, 1, 12, 12, 1, 1, 5, 7, 1, 14, 14, 1, 1, 8, 10, 1, 16, 16, 1, 1, 12, 12, 1, 18, 18, 1, 1, 18, 14, 1, 20, 20, 1, 1, 22, 18, 1, 22, 22, 1, 1, 30, 20, 1, 24, 24, 1, 1, 36, 24, 1, 26, 26, 1, 1, 44, 28, 1, 32, 32, 2, 2, 62, 36, 1, 36, 36, 2, 2, 86, 42, 1, 40, 40, 2, 2, 114, 48, 1, 44, 44, 2, 2, 144, 56, 1, 48, 48, 2, 2, 174, 68, 1, 52, 52, 2, 2, 204, 84, 2, 64, 64, 4, 4, 280, 112, 2, 72, 72, 4, 4, 368, 144, 4, 80, 80, 4, 4, 456, 192, 4, 88, 88, 4, 4, 576, 224, 4, 96, 96, 4, 4, 696, 272, 4, 104, 104, 4, 4, 816, 336, 6, 120, 120, 6, 6, 1050, 408, 6, 132, 132, 6, 6, 1304, 496, 8, 8, 18, 1, 1, 5, 7, 1, 8, 32, 1, 2, 10, 11, 1, 12, 26, 1, 1, 16, 14, 1, 12, 36, 1, 2, 22, 18, 1, 16, 36, 1, 2, 32, 24, 1, 16, 48, 1, 2, 49, 28, 1]
theorem f14_run (n : Nat) (h : AH) (k : AV → AH → R) : callIn Tryz.prog (exec Tryz.prog (n + 10)) false 14 .e h k =
    putL (numL .i64 symL) .leaf 0 (fun cs _ => T.setK h.objs h.next (.cells 27 203 cs) fun t => forceN (Nat.succ h.next) fun nx => k (.sl h.next 0 29 29) ⟨t, nx⟩) := by
  kernel_rfl
theorem bop_ss (op : BinOp) (xt : Nat) (c : Bool) (x y : ByteArray) (k : AV → R) : bop Tryz.prog op xt c (.s x) (.s y) k = eqK op (x.data.toList == y.data.toList) k := nrfl rfl
attribute [go_sem ↓] bop_ss
set_option maxHeartbeats 4000000 in
set_option maxRecDepth 100000 in
theorem f10 {m : Nat} {h : AH} {s : ByteArray} (hm : 20000 ≤ m) (hs : s.size < 2000) :
    Runs (fun k => cl Tryz.prog (exec Tryz.prog m) false 10 (.c (.s s) .e) h k ⟨⟩) fun v h' => ∃ b, v = .b b ∧ h' = h ∧ (b = true → 0 < s.size ∧ ∀ j, j < s.size → bt s j < 128) := by
  obtain ⟨m, rfl⟩ : ∃ n, m = n + 100 := ⟨m - 100, by omega⟩
  refine Runs.of_eq (fun k => cl_in Tryz.func10 rfl (by kernel_rfl) Tryz.ntmps10 Tryz.results10 rfl rfl _ _ _ _ _ _) ?_
  simp -dsimp (disch := omega) only [go_sem, ↓reduceIte, Nat.reduceAdd, Nat.reduceSub, Nat.reduceMul, Nat.reduceLeDiff, Nat.reduceLT, Nat.reduceEqDiff, Nat.reduceBEq, Int.reduceEq, Int.reduceLT, Int.reduceLE, Int.reduceNeg, Int.reduceAdd, Int.reduceSub, Int.reduceMul, beq_self_eq_true]
  refine Runs.loop (loop_rule 12000 (fun i rg h' => ∃ p, p + i = s.size ∧ h' = h ∧ (∀ j, j < p → bt s j < 128) ∧ T.get rg 0 = some (.s s) ∧ T.get rg 5 = some (.i .i64 (s.size : Int)) ∧ T.get rg 6 = some (.i .i64 (p : Int)))
    (Q := fun e rg h' => h' = h ∧ ((e = .exit 0 ∧ (∀ j, j < s.size → bt s j < 128) ∧ T.get rg 0 = some (.s s)) ∨ (e = .ret ∧ T.get rg 2 = some (.b false)))) ?_ s.size _ _ _ (by omega) ⟨0, by omega, rfl, by omega, (by simp only [get_put, ↓reduceIte, Nat.reduceEqDiff] <;> first | assumption | rfl), (by simp only [get_put, ↓reduceIte, Nat.reduceEqDiff] <;> first | assumption | rfl), (by simp only [get_put, ↓reduceIte, Nat.reduceEqDiff] <;> first | assumption | rfl)⟩) ?_
  · rintro m i rg h' hm ⟨p, pi, rfl, hp, r0, r5, r6⟩
    obtain ⟨m, rfl⟩ : ∃ n, m = n + 100 := ⟨m - 100, by omega⟩
    simp -dsimp (disch := omega) only [go_sem, ↓reduceIte, Nat.reduceAdd, Nat.reduceSub, Nat.reduceMul, Nat.reduceLeDiff, Nat.reduceLT, Nat.reduceEqDiff, Nat.reduceBEq, Int.reduceEq, Int.reduceLT, Int.reduceLE, Int.reduceNeg, Int.reduceAdd, Int.reduceSub, Int.reduceMul, beq_self_eq_true, gt_of r0, gt_of r5, gt_of r6]
    refine RunsC.brd (fun c1 => ?_) (fun c1 => ?_) <;> simp -dsimp (disch := omega) only [go_sem, ↓reduceIte, Nat.reduceAdd, Nat.reduceSub, Nat.reduceMul, Nat.reduceLeDiff, Nat.reduceLT, Nat.reduceEqDiff, Nat.reduceBEq, Int.reduceEq, Int.reduceLT, Int.reduceLE, Int.reduceNeg, Int.reduceAdd, Int.reduceSub, Int.reduceMul, beq_self_eq_true, gt_of r0, gt_of r5, gt_of r6]
    · refine RunsC.brd (fun c2 => ?_) (fun c2 => ?_) <;> simp -dsimp (disch := omega) only [go_sem, ↓reduceIte, Nat.reduceAdd, Nat.reduceSub, Nat.reduceMul, Nat.reduceLeDiff, Nat.reduceLT, Nat.reduceEqDiff, Nat.reduceBEq, Int.reduceEq, Int.reduceLT, Int.reduceLE, Int.reduceNeg, Int.reduceAdd, Int.reduceSub, Int.reduceMul, beq_self_eq_true, gt_of r0, gt_of r5, gt_of r6]
      · exact RunsC.back ⟨rfl, .inr ⟨rfl, (by simp only [get_put, ↓reduceIte, Nat.reduceEqDiff] <;> first | assumption | rfl)⟩⟩
      · exact RunsC.again (s.size - (p + 1)) (by omega) ⟨p + 1, by omega, rfl, fun j hj => by rcases Nat.lt_succ_iff_lt_or_eq.1 hj with hj | rfl; exact hp j hj; omega, (by simp only [get_put, ↓reduceIte, Nat.reduceEqDiff] <;> first | assumption | rfl), (by simp only [get_put, ↓reduceIte, Nat.reduceEqDiff] <;> first | assumption | rfl), (by simp only [get_put, ↓reduceIte, Nat.reduceEqDiff] <;> first | assumption | rfl)⟩
    · exact RunsC.leave ⟨rfl, .inl ⟨rfl, fun j hj => hp j (by omega), (by simp only [get_put, ↓reduceIte, Nat.reduceEqDiff] <;> first | assumption | rfl)⟩⟩
  · rintro _ rg h' ⟨rfl, ⟨rfl, hp, r0⟩ | ⟨rfl, r2⟩⟩
    · simp -dsimp (disch := omega) only [go_sem, ↓reduceIte, Nat.reduceAdd, Nat.reduceSub, Nat.reduceMul, Nat.reduceLeDiff, Nat.reduceLT, Nat.reduceEqDiff, Nat.reduceBEq, Int.reduceEq, Int.reduceLT, Int.reduceLE, Int.reduceNeg, Int.reduceAdd, Int.reduceSub, Int.reduceMul, beq_self_eq_true, gt_of r0]
      refine Runs.ret ⟨_, rfl, rfl, fun e => ⟨?_, hp⟩⟩
      rcases Nat.eq_zero_or_pos s.size with h0 | h0
      · have e0 : s.data.toList = [] := by
          have : s.data.size = 0 := h0
          rw [← Array.length_toList] at this
          exact List.eq_nil_of_length_eq_zero this
        rw [e0] at e
        exact absurd e (by decide)
      · exact h0
    · simp -dsimp (disch := omega) only [go_sem, ↓reduceIte, Nat.reduceAdd, Nat.reduceSub, Nat.reduceMul, Nat.reduceLeDiff, Nat.reduceLT, Nat.reduceEqDiff, Nat.reduceBEq, Int.reduceEq, Int.reduceLT, Int.reduceLE, Int.reduceNeg, Int.reduceAdd, Int.reduceSub, Int.reduceMul, beq_self_eq_true, gt_of r2]
      exact Runs.ret ⟨false, rfl, rfl, fun e => by cases e⟩
set_option maxHeartbeats 4000000 in
set_option maxRecDepth 100000 in
theorem f4 {m : Nat} {h : AH} {s : ByteArray} (hm : 21000 ≤ m) :
    Runs (fun k => cl Tryz.prog (exec Tryz.prog m) false 4 (.c (.s s) .e) h k ⟨⟩) fun v h' => ∃ b, v = .b b ∧ h' = h ∧ (b = true → 0 < s.size ∧ s.size ≤ 1000 ∧ ∀ j, j < s.size → bt s j < 128) := by
  obtain ⟨m, rfl⟩ : ∃ n, m = n + 100 := ⟨m - 100, by omega⟩
  refine Runs.of_eq (fun k => cl_in Tryz.func4 rfl (by kernel_rfl) Tryz.ntmps4 Tryz.results4 rfl rfl _ _ _ _ _ _) ?_
  simp -dsimp (disch := omega) only [go_sem, ↓reduceIte, Nat.reduceAdd, Nat.reduceSub, Nat.reduceMul, Nat.reduceLeDiff, Nat.reduceLT, Nat.reduceEqDiff, Nat.reduceBEq, Int.reduceEq, Int.reduceLT, Int.reduceLE, Int.reduceNeg, Int.reduceAdd, Int.reduceSub, Int.reduceMul, beq_self_eq_true]
  refine Runs.brd (fun c1 => ?_) (fun c1 => ?_) <;> simp -dsimp (disch := omega) only [go_sem, ↓reduceIte, Nat.reduceAdd, Nat.reduceSub, Nat.reduceMul, Nat.reduceLeDiff, Nat.reduceLT, Nat.reduceEqDiff, Nat.reduceBEq, Int.reduceEq, Int.reduceLT, Int.reduceLE, Int.reduceNeg, Int.reduceAdd, Int.reduceSub, Int.reduceMul, beq_self_eq_true, c1]
  · refine Runs.bind (f10 (by omega) (by omega)) ?_
    rintro _ h' ⟨b, rfl, rfl, hb⟩
    simp -dsimp (disch := omega) only [go_sem, ↓reduceIte, Nat.reduceAdd, Nat.reduceSub, Nat.reduceMul, Nat.reduceLeDiff, Nat.reduceLT, Nat.reduceEqDiff, Nat.reduceBEq, Int.reduceEq, Int.reduceLT, Int.reduceLE, Int.reduceNeg, Int.reduceAdd, Int.reduceSub, Int.reduceMul, beq_self_eq_true, c1]
    exact Runs.ret ⟨b, rfl, rfl, fun e => ⟨(hb e).1, by omega, (hb e).2⟩⟩
  · exact Runs.ret ⟨false, rfl, rfl, fun e => by cases e⟩
theorem f14 {m : Nat} {h : AH} (hm : 100 ≤ m) : Runs (fun k => cl Tryz.prog (exec Tryz.prog m) false 14 .e h k ⟨⟩) fun v h' => v = .sl h.next 0 29 29 ∧ ∃ cs, h' = ⟨T.put h.objs h.next (.cells 27 203 cs), h.next + 1⟩ ∧ Has .i64 cs symL := by
  obtain ⟨n, rfl⟩ : ∃ n, m = n + 10 := ⟨m - 10, by omega⟩
  obtain ⟨cs', h1, h2⟩ := putL_num symL .leaf [] (Has.nil .i64 _)
  refine ⟨_, _, fun k => ?_, rfl, cs', rfl, by simpa using h2⟩
  refine (callAt_n Tryz.prog _ false 14 .e h k rfl rfl).trans ((f14_run n h k).trans ((h1 _).trans ?_))
  show T.setK h.objs h.next (.cells 27 203 cs') (fun t => forceN (Nat.succ h.next) fun nx => k (.sl h.next 0 29 29) ⟨t, nx⟩) = _
  rw [setK_put, forceN_eq]
/-! ### Structs of seven numbers -/
theorem ty_one27 : one Tryz.prog 27 = false := by kernel_rfl
theorem ty_ss27 : structSize Tryz.prog 27 = some 7 := by kernel_rfl
theorem ty_so27 : structOk Tryz.prog 27 = true := by kernel_rfl
def zero7 : List Nat := [0, 0, 0, 0, 0, 0, 0]
theorem ty_z27 : (zeroL Tryz.prog 27).map toAV = some (numL .i64 zero7) := by kernel_rfl
theorem ty_el40 : elemOf Tryz.prog 40 = some 27 := by kernel_rfl
noncomputable def stA (sz : Nat) (h : AH) (p v : AV) (kk : AH → R) (_ : Tok kk) : R := onP p fun id off => opt (T.get h.objs id) fun o => onCells o fun e size cs => onAg v fun l => putL l cs off fun cs n => when (Nat.beq n (Nat.add off sz)) (when (Nat.ble n size) (kk ⟨T.put h.objs id (.cells e size cs), h.next⟩))
section
variable (nt : Nat) (rg : T AV) (h : AH) (dst : Option Tmp) (k : AV → R) (kk : T AV → AH → R) (x y : Operand)
theorem z27 : ∃ z, zeroL Tryz.prog 27 = some z ∧ toAV z = numL .i64 zero7 := by
  have := ty_z27
  rcases hz : zeroL Tryz.prog 27 with _ | z
  · rw [hz] at this; cases this
  · rw [hz] at this; exact ⟨z, rfl, Option.some.inj this⟩
theorem in_alloc27 : wAlloc Tryz.prog nt rg h dst kk 27 = setR nt rg dst (.p h.next 0) fun rg => kk rg ⟨T.put h.objs h.next (.cells 27 7 (lay .leaf 0 zero7)), h.next + 1⟩ := by
  obtain ⟨z, h1, h2⟩ := z27
  unfold wAlloc
  rw [ty_one27, ty_ss27, h1]
  show putL (toAV z) .leaf 0 _ = _
  rw [h2, putL_lay]
  exact wNew_n nt rg h dst kk _ _
theorem in_load27 : loadV Tryz.prog rg h 27 x k = oe rg x fun v => ldA 7 h v k ⟨⟩ := by
  unfold loadV
  rw [ty_one27, ty_ss27]
  rfl
theorem in_store27 : wStore Tryz.prog nt rg h dst kk 27 x y = oe rg x fun p => oe rg y fun v => stA 7 h p v (fun h => setR nt rg dst (.tu .e) fun rg => kk rg h) ⟨⟩ := by
  unfold wStore
  rw [ty_one27, ty_ss27]
  simp only [wObj_n]
  rfl
theorem in_build27 : pBuild Tryz.prog rg k 27 #[] = k (.ag (numL .i64 zero7)) := by
  obtain ⟨z, h1, h2⟩ := z27
  unfold pBuild
  rw [h1, ty_so27, opt_s, when_t]
  show k (.ag (toAV z)) = _
  rw [h2]
theorem in_index40 : pIndex Tryz.prog rg k 40 x y = oe rg x fun v => oe rg y fun w => onI w fun _ n => nt1 n (fun m => ixA 7 v m k ⟨⟩) ⟨⟩ := by
  unfold pIndex
  rw [ty_el40, opt_s, ty_one27, ty_ss27]
  show oe rg x _ = oe rg x _
  congr 1; funext v; congr 1; funext w; congr 1; funext _ n; congr 1; funext m _
  unfold ixA
  congr 1
  funext id off len _
  rw [blt_eq, forceN_eq]
  rfl
theorem ln_sl40 (a b c d : Nat) (w : Tok k) : ln 40 (.sl a b c d) k w = k (.i .i64 (c : Int)) := by unfold ln; rw [onLen_sl, ty_el40, opt_s]
theorem outc2 (k : AV → AH → R) (a t u : Nat) : outK Tryz.prog [.cell a t, .tmp u].toArray k .ret rg h = loadV Tryz.prog rg h t (.tmp a) fun v => gt rg u (fun w => k (.tu (.c v (.c w .e))) h) ⟨⟩ := nrfl rfl
end
theorem ldA_num {h : AH} {id off : Nat} {o : AO} {r : List Nat} (h1 : T.get h.objs id = some o) (hr : r.length = 7) (h2 : ∀ j (hj : j < r.length), AO.at o (off + j) = some (.i .i64 (r[j] : Int))) (k : AV → R) (w : Tok k) : ldA 7 h (.p id off) k w = k (.ag (numL .i64 r)) := by
  show opt (T.get h.objs id) (fun o => takeL o 7 off fun l => k (.ag l)) = _
  rw [h1, opt_s, ← hr, takeL_num r off _ h2]
theorem stA_num {h : AH} {id e : Nat} {cs : T AV} {r : List Nat} (h1 : T.get h.objs id = some (.cells e 7 cs)) (hr : r.length = 7) (kk : AH → R) (w : Tok kk) : stA 7 h (.p id 0) (.ag (numL .i64 r)) kk w = kk ⟨T.put h.objs id (.cells e 7 (lay cs 0 r)), h.next⟩ := by
  show opt (T.get h.objs id) (fun o => onCells o fun e size cs => putL (numL .i64 r) cs 0 fun cs n => when (Nat.beq n (Nat.add 0 7)) (when (Nat.ble n size) (kk ⟨T.put h.objs id (.cells e size cs), h.next⟩))) = _
  rw [h1, opt_s, onCells_c, putL_lay, hr]
  rfl
theorem lay_at (e n : Nat) (cs : T AV) (r : List Nat) (hr : r.length ≤ n) (j : Nat) (hj : j < r.length) : AO.at (.cells e n (lay cs 0 r)) (0 + j) = some (.i .i64 (r[j] : Int)) := by
  rw [at_cells, if_pos (by omega), get_lay, if_pos (by omega), Nat.zero_add, Nat.sub_zero, List.getD_eq_getElem?_getD, List.getElem?_eq_getElem hj]
  rfl
end Go.Proofs.YtcnallabiffemaaGreatDoor.Vm
