/- The source of bits, made, and the result of a decoding: run with letters. Conditions: none. -/
import Derived.Test.YtcnallabiffemaaGreatDoorVmYl
set_option linter.unusedSimpArgs false
set_option linter.unusedVariables false
namespace Go.Proofs.YtcnallabiffemaaGreatDoor.Vm
open Go
theorem ty_z108 : (zeroL Tryz.prog 108).map toAV = some (.c .ns (.c (.i .i64 0) (.c (.i .i64 0) .e))) := by kernel_rfl
theorem in_build108 (rg : T AV) (k : AV → R) (a : Operand) : pBuild Tryz.prog rg k 108 #[(0, a)] = oe rg a fun va => chk (scalar va) (k (.ag (.c va (.c (.i .i64 0) (.c (.i .i64 0) .e))))) ⟨⟩ := by kernel_rfl
theorem in_build84 (rg : T AV) (k : AV → R) (a b c d e f g i : Operand) : pBuild Tryz.prog rg k 84 #[(0, a), (1, b), (2, c), (3, d), (4, e), (8, f), (9, g), (10, i)] =
    oe rg a fun va => chk (scalar va) (oe rg b fun vb => chk (scalar vb) (oe rg c fun vc => chk (scalar vc) (oe rg d fun vd => chk (scalar vd) (oe rg e fun ve => chk (scalar ve) (oe rg f fun vf => chk (scalar vf) (oe rg g fun vg => chk (scalar vg) (oe rg i fun vi => chk (scalar vi)
      (k (.ag (.c va (.c vb (.c vc (.c vd (.c ve (.c (.i .i64 0) (.c (.i .i64 0) (.c .ni (.c vf (.c vg (.c vi .e))))))))))))) ⟨⟩) ⟨⟩) ⟨⟩) ⟨⟩) ⟨⟩) ⟨⟩) ⟨⟩) ⟨⟩ := by kernel_rfl
theorem putL_c' (x l : AV) (cs : T AV) (off : Nat) (k : T AV → Nat → R) : putL (.c x l) cs off k = chk (scalar x) (putL l (T.put cs off x) (off + 1) k) ⟨⟩ := by
  show when (scalar x) (T.setK cs off x fun cs => forceN (Nat.succ off) fun off => putL l cs off k) = _
  rw [setK_put, forceN_eq]
  rfl
theorem putL_e' (cs : T AV) (off : Nat) (k : T AV → Nat → R) : putL .e cs off k = k cs off := nrfl rfl
theorem scalar_ni : scalar .ni = true := nrfl rfl
theorem Sl.sc {kd : IntKind} {e : Nat} {h : AH} {v : AV} {xs : List Nat} (hs : Sl kd e h v xs) : scalar v = true := by cases hs <;> rfl
theorem SlV.sc {h : AH} {v : AV} {n : Nat} (hs : SlV h v n) : scalar v = true := by cases hs <;> rfl
theorem ty_fo84 : fieldOff Tryz.prog 84 2 = some 2 := by kernel_rfl
theorem in_fo84 (rg : T AV) (k : AV → R) (x : Operand) : pField Tryz.prog rg k 84 x 2 = oe rg x fun v => onP v fun id off => k (.p id (off + 2)) := pField_n _ _ _ _ _ _ _ ty_fo84
attribute [local go_sem ↓] in_build108 in_build84 putL_c' putL_e' in_fo84
attribute [local go_sem] scalar_ni
set_option maxHeartbeats 4000000 in
set_option maxRecDepth 100000 in
theorem f32 {m : Nat} {h : AH} {data : AV} {W : List Nat} (hm : 10000 ≤ m) (hd : Sl .u8 5 h data W) :
    Runs (fun k => cl Tryz.prog (exec Tryz.prog m) false 32 (.c data .e) h k ⟨⟩) fun v h' => v = .p h.next 0 ∧ Bits h' h.next data 0 0 ∧ Same h.next h h' ∧ h'.next = h.next + 1 := by
  obtain ⟨m, rfl⟩ : ∃ n, m = n + 100 := ⟨m - 100, by omega⟩
  refine Runs.of_eq (fun k => cl_in Tryz.func32 rfl (by kernel_rfl) Tryz.ntmps32 Tryz.results32 rfl rfl _ _ _ _ _ _) ?_
  have hsc := hd.sc
  simp -dsimp (disch := omega) only [go_sem, ↓reduceIte, Nat.reduceAdd, Nat.reduceSub, Nat.reduceMul, Nat.reduceLeDiff, Nat.reduceLT, Nat.reduceEqDiff, Nat.reduceBEq, Int.reduceEq, Int.reduceLT, Int.reduceLE, Int.reduceNeg, Int.reduceAdd, Int.reduceSub, Int.reduceMul, beq_self_eq_true, Nat.zero_add, hsc]
  refine Runs.ret ⟨rfl, ⟨_, by simp only [get_put, if_true] <;> rfl, ?_, ?_, ?_⟩, Same.new _ _ _, rfl⟩
  · simp only [get_put, ↓reduceIte, Nat.reduceEqDiff]
  · simp only [get_put, ↓reduceIte, Nat.reduceEqDiff] <;> rfl
  · simp only [get_put, ↓reduceIte, Nat.reduceEqDiff] <;> rfl
/-- A result with its text. -/
def Res (h : AH) (v : AV) (t : ByteArray) : Prop := ∃ id c, v = .p id 0 ∧ T.get h.objs id = some (.cells 84 11 c) ∧ T.get c 2 = some (.s t)
set_option maxHeartbeats 4000000 in
set_option maxRecDepth 100000 in
theorem f68 {m : Nat} {h : AH} {data segs : AV} {W : List Nat} {t e : ByteArray} {z : Int} (hm : 10000 ≤ m) (hd : Sl .u8 5 h data W) (hW : W.length < 5000) (hs : scalar segs = true) :
    Runs (fun k => cl Tryz.prog (exec Tryz.prog m) false 68 (.c data (.c (.s t) (.c segs (.c (.s e) (.c (.i .i64 (-1)) (.c (.i .i64 (-1)) (.c (.i .i64 z) .e))))))) h k ⟨⟩) fun v h' => Res h' v t ∧ Same h.next h h' := by
  obtain ⟨m, rfl⟩ : ∃ n, m = n + 100 := ⟨m - 100, by omega⟩
  have regs7 : ∀ (a b c d x y z : AV) (cs : T AV) (k : T AV → Nat → R), regsL (.c a (.c b (.c c (.c d (.c x (.c y (.c z .e))))))) cs 0 k = k (T.put (T.put (T.put (T.put (T.put (T.put (T.put cs 0 a) 1 b) 2 c) 3 d) 4 x) 5 y) 6 z) 7 := fun a b c d x y z cs k => by rw [regs_c, regs_c, regs_c, regs_c, regs_c, regs_c, regs_c, regs_e]
  refine Runs.of_eq (fun k => cl_in Tryz.func68 rfl (by kernel_rfl) Tryz.ntmps68 Tryz.results68 rfl rfl _ _ _ _ _ _) ?_
  have hsc := hd.sc
  simp -dsimp (disch := omega) only [go_sem, ↓reduceIte, Nat.reduceAdd, Nat.reduceSub, Nat.reduceMul, Nat.reduceLeDiff, Nat.reduceLT, Nat.reduceEqDiff, Nat.reduceBEq, Int.reduceEq, Int.reduceLT, Int.reduceLE, Int.reduceNeg, Int.reduceAdd, Int.reduceSub, Int.reduceMul, beq_self_eq_true, Nat.zero_add, hsc, hs, hd.ln42, regs7]
  refine Runs.ret ⟨⟨_, _, rfl, by simp only [get_put, if_true] <;> rfl, ?_⟩, Same.new _ _ _⟩
  simp only [get_put, ↓reduceIte, Nat.reduceEqDiff]
set_option maxHeartbeats 4000000 in
set_option maxRecDepth 100000 in
theorem f42 {m : Nat} {h : AH} {data segs : AV} {W : List Nat} {t e : ByteArray} {z : Int} (hm : 11000 ≤ m) (hd : Sl .u8 5 h data W) (hW : W.length < 5000) (hs : scalar segs = true) :
    Runs (fun k => cl Tryz.prog (exec Tryz.prog m) false 42 (.c data (.c (.s t) (.c segs (.c (.s e) (.c (.i .i64 z) .e))))) h k ⟨⟩) fun v h' => Res h' v t ∧ Same h.next h h' := by
  obtain ⟨m, rfl⟩ : ∃ n, m = n + 100 := ⟨m - 100, by omega⟩
  refine Runs.of_eq (fun k => cl_in Tryz.func42 rfl (by kernel_rfl) Tryz.ntmps42 Tryz.results42 rfl rfl _ _ _ _ _ _) ?_
  simp -dsimp (disch := omega) only [go_sem, ↓reduceIte, Nat.reduceAdd, Nat.reduceSub, Nat.reduceMul, Nat.reduceLeDiff, Nat.reduceLT, Nat.reduceEqDiff, Nat.reduceBEq, Int.reduceEq, Int.reduceLT, Int.reduceLE, Int.reduceNeg, Int.reduceAdd, Int.reduceSub, Int.reduceMul, beq_self_eq_true, Nat.zero_add]
  refine Runs.bind (f68 (by omega) hd hW hs) ?_
  rintro v h' ⟨a1, a2⟩
  simp -dsimp (disch := omega) only [go_sem, ↓reduceIte, Nat.reduceAdd, Nat.reduceSub, Nat.reduceMul, Nat.reduceLeDiff, Nat.reduceLT, Nat.reduceEqDiff, Nat.reduceBEq, Int.reduceEq, Int.reduceLT, Int.reduceLE, Int.reduceNeg, Int.reduceAdd, Int.reduceSub, Int.reduceMul, beq_self_eq_true, Nat.zero_add]
  exact Runs.ret ⟨a1, a2⟩
set_option maxHeartbeats 4000000 in
set_option maxRecDepth 100000 in
theorem f19 {m : Nat} {h : AH} {v : AV} {t : ByteArray} (hm : 10000 ≤ m) (hr : Res h v t) :
    Runs (fun k => cl Tryz.prog (exec Tryz.prog m) false 19 (.c v .e) h k ⟨⟩) fun r h' => r = .s t ∧ h' = h := by
  obtain ⟨id, c, rfl, g1, g2⟩ := hr
  obtain ⟨m, rfl⟩ : ∃ n, m = n + 100 := ⟨m - 100, by omega⟩
  refine Runs.of_eq (fun k => cl_in Tryz.func19 rfl (by kernel_rfl) Tryz.ntmps19 Tryz.results19 rfl rfl _ _ _ _ _ _) ?_
  have hld : ∀ k w, ld h (.p id 2) k w = k (.s t) := fun k w => ld_p k h id 2 w _ g1 _ (by rw [at_cells, if_pos (by omega), g2])
  simp -dsimp (disch := omega) only [go_sem, ↓reduceIte, Nat.reduceAdd, Nat.reduceSub, Nat.reduceMul, Nat.reduceLeDiff, Nat.reduceLT, Nat.reduceEqDiff, Nat.reduceBEq, Int.reduceEq, Int.reduceLT, Int.reduceLE, Int.reduceNeg, Int.reduceAdd, Int.reduceSub, Int.reduceMul, beq_self_eq_true, Nat.zero_add, hld]
  exact Runs.ret ⟨rfl, rfl⟩
end Go.Proofs.YtcnallabiffemaaGreatDoor.Vm
