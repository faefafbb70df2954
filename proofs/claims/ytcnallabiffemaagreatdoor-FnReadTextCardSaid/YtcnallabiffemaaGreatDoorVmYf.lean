/- Tables of characters, two octets as three values, and new slices. Conditions: none. -/
import Derived.Test.YtcnallabiffemaaGreatDoorVmYe
set_option linter.unusedSimpArgs false
set_option linter.unusedVariables false
namespace Go.Proofs.YtcnallabiffemaaGreatDoor.Vm
open Go
def tab59 : List Nat := [42, 42, 42, 32, 48, 49, 50, 51, 52, 53, 54, 55, 56, 57, 65, 66, 67, 68, 69, 70, 71, 72, 73, 74, 75, 76, 77, 78, 79, 80, 81, 82, 83, 84, 85, 86, 87, 88, 89, 90]
theorem f59_run (n : Nat) (h : AH) (k : AV → AH → R) : callIn Tryz.prog (exec Tryz.prog (n + 10)) false 59 .e h k =
    putL (numL .u8 tab59) (T.full (some (.i .u8 0)) depthC) 0 (fun cs _ => T.setK h.objs h.next (.cells 5 40 cs) fun t => forceN (Nat.succ h.next) fun nx => k (.sl h.next 0 40 40) ⟨t, nx⟩) := by
  kernel_rfl
theorem f59 {m : Nat} {h : AH} (hm : 100 ≤ m) : Runs (fun k => cl Tryz.prog (exec Tryz.prog m) false 59 .e h k ⟨⟩) fun v h' => SlN .u8 5 h.next h' v tab59 ∧ Same h.next h h' := by
  obtain ⟨n, rfl⟩ : ∃ n, m = n + 10 := ⟨m - 10, by omega⟩
  refine ⟨_, ⟨T.put h.objs h.next (.cells 5 40 (layk .u8 (T.full (some (.i .u8 0)) depthC) 0 tab59)), h.next + 1⟩, fun k => ?_, ⟨Sl.sl h.next 40 (layk .u8 (T.full (some (.i .u8 0)) depthC) 0 tab59) tab59 (Nat.lt_succ_self _) (by simp only [get_put, if_true]) (has_layk _ _ _) (Nat.le_refl _), fun j hj => by cases hj; exact Nat.le_refl _⟩, Same.new _ _ _⟩
  refine (callAt_n Tryz.prog _ false 59 .e h k rfl rfl).trans ((f59_run n h k).trans ((putL_layk _ _ _ _ _).trans ?_))
  show T.setK h.objs h.next _ (fun t => forceN (Nat.succ h.next) fun nx => k (.sl h.next 0 40 40) ⟨t, nx⟩) = _
  rw [setK_put, forceN_eq]
  rfl
def tab60 : List Nat := [33, 34, 35, 36, 37, 38, 39, 40, 41, 42, 43, 44, 45, 46, 47, 58, 59, 60, 61, 62, 63, 64, 91, 92, 93, 94, 95]
theorem f60_run (n : Nat) (h : AH) (k : AV → AH → R) : callIn Tryz.prog (exec Tryz.prog (n + 10)) false 60 .e h k =
    putL (numL .u8 tab60) (T.full (some (.i .u8 0)) depthC) 0 (fun cs _ => T.setK h.objs h.next (.cells 5 27 cs) fun t => forceN (Nat.succ h.next) fun nx => k (.sl h.next 0 27 27) ⟨t, nx⟩) := by
  kernel_rfl
theorem f60 {m : Nat} {h : AH} (hm : 100 ≤ m) : Runs (fun k => cl Tryz.prog (exec Tryz.prog m) false 60 .e h k ⟨⟩) fun v h' => SlN .u8 5 h.next h' v tab60 ∧ Same h.next h h' := by
  obtain ⟨n, rfl⟩ : ∃ n, m = n + 10 := ⟨m - 10, by omega⟩
  refine ⟨_, ⟨T.put h.objs h.next (.cells 5 27 (layk .u8 (T.full (some (.i .u8 0)) depthC) 0 tab60)), h.next + 1⟩, fun k => ?_, ⟨Sl.sl h.next 27 (layk .u8 (T.full (some (.i .u8 0)) depthC) 0 tab60) tab60 (Nat.lt_succ_self _) (by simp only [get_put, if_true]) (has_layk _ _ _) (Nat.le_refl _), fun j hj => by cases hj; exact Nat.le_refl _⟩, Same.new _ _ _⟩
  refine (callAt_n Tryz.prog _ false 60 .e h k rfl rfl).trans ((f60_run n h k).trans ((putL_layk _ _ _ _ _).trans ?_))
  show T.setK h.objs h.next _ (fun t => forceN (Nat.succ h.next) fun nx => k (.sl h.next 0 27 27) ⟨t, nx⟩) = _
  rw [setK_put, forceN_eq]
  rfl
def tab61 : List Nat := [42, 42, 42, 32, 48, 49, 50, 51, 52, 53, 54, 55, 56, 57, 97, 98, 99, 100, 101, 102, 103, 104, 105, 106, 107, 108, 109, 110, 111, 112, 113, 114, 115, 116, 117, 118, 119, 120, 121, 122]
theorem f61_run (n : Nat) (h : AH) (k : AV → AH → R) : callIn Tryz.prog (exec Tryz.prog (n + 10)) false 61 .e h k =
    putL (numL .u8 tab61) (T.full (some (.i .u8 0)) depthC) 0 (fun cs _ => T.setK h.objs h.next (.cells 5 40 cs) fun t => forceN (Nat.succ h.next) fun nx => k (.sl h.next 0 40 40) ⟨t, nx⟩) := by
  kernel_rfl
theorem f61 {m : Nat} {h : AH} (hm : 100 ≤ m) : Runs (fun k => cl Tryz.prog (exec Tryz.prog m) false 61 .e h k ⟨⟩) fun v h' => SlN .u8 5 h.next h' v tab61 ∧ Same h.next h h' := by
  obtain ⟨n, rfl⟩ : ∃ n, m = n + 10 := ⟨m - 10, by omega⟩
  refine ⟨_, ⟨T.put h.objs h.next (.cells 5 40 (layk .u8 (T.full (some (.i .u8 0)) depthC) 0 tab61)), h.next + 1⟩, fun k => ?_, ⟨Sl.sl h.next 40 (layk .u8 (T.full (some (.i .u8 0)) depthC) 0 tab61) tab61 (Nat.lt_succ_self _) (by simp only [get_put, if_true]) (has_layk _ _ _) (Nat.le_refl _), fun j hj => by cases hj; exact Nat.le_refl _⟩, Same.new _ _ _⟩
  refine (callAt_n Tryz.prog _ false 61 .e h k rfl rfl).trans ((f61_run n h k).trans ((putL_layk _ _ _ _ _).trans ?_))
  show T.setK h.objs h.next _ (fun t => forceN (Nat.succ h.next) fun nx => k (.sl h.next 0 40 40) ⟨t, nx⟩) = _
  rw [setK_put, forceN_eq]
  rfl
def tab62 : List Nat := [96, 65, 66, 67, 68, 69, 70, 71, 72, 73, 74, 75, 76, 77, 78, 79, 80, 81, 82, 83, 84, 85, 86, 87, 88, 89, 90, 123, 124, 125, 126, 127]
theorem f62_run (n : Nat) (h : AH) (k : AV → AH → R) : callIn Tryz.prog (exec Tryz.prog (n + 10)) false 62 .e h k =
    putL (numL .u8 tab62) (T.full (some (.i .u8 0)) depthC) 0 (fun cs _ => T.setK h.objs h.next (.cells 5 32 cs) fun t => forceN (Nat.succ h.next) fun nx => k (.sl h.next 0 32 32) ⟨t, nx⟩) := by
  kernel_rfl
theorem f62 {m : Nat} {h : AH} (hm : 100 ≤ m) : Runs (fun k => cl Tryz.prog (exec Tryz.prog m) false 62 .e h k ⟨⟩) fun v h' => SlN .u8 5 h.next h' v tab62 ∧ Same h.next h h' := by
  obtain ⟨n, rfl⟩ : ∃ n, m = n + 10 := ⟨m - 10, by omega⟩
  refine ⟨_, ⟨T.put h.objs h.next (.cells 5 32 (layk .u8 (T.full (some (.i .u8 0)) depthC) 0 tab62)), h.next + 1⟩, fun k => ?_, ⟨Sl.sl h.next 32 (layk .u8 (T.full (some (.i .u8 0)) depthC) 0 tab62) tab62 (Nat.lt_succ_self _) (by simp only [get_put, if_true]) (has_layk _ _ _) (Nat.le_refl _), fun j hj => by cases hj; exact Nat.le_refl _⟩, Same.new _ _ _⟩
  refine (callAt_n Tryz.prog _ false 62 .e h k rfl rfl).trans ((f62_run n h k).trans ((putL_layk _ _ _ _ _).trans ?_))
  show T.setK h.objs h.next _ (fun t => forceN (Nat.succ h.next) fun nx => k (.sl h.next 0 32 32) ⟨t, nx⟩) = _
  rw [setK_put, forceN_eq]
  rfl
theorem mkW_n (h : AH) (n e : Nat) (z : AV) (k : AV → AH → R) (w : Tok k) (hn : n < 100000) : mkW h (n : Int) (n : Int) e z k w = k (.sl h.next 0 n n) ⟨T.put h.objs h.next (.cells e n (T.full (some z) depthC)), h.next + 1⟩ := by
  unfold mkW
  rw [nat2_n, decide_eq_true (Nat.le_refl n), decide_eq_true hn]
  rfl
theorem mkW_33 (h : AH) (e : Nat) (z : AV) (k : AV → AH → R) (w : Tok k) : mkW h 3 3 e z k w = k (.sl h.next 0 3 3) ⟨T.put h.objs h.next (.cells e 3 (T.full (some z) depthC)), h.next + 1⟩ := mkW_n h 3 e z k w (by omega)
theorem shl8 (a : Nat) : (a : Int) * 2 ^ min (Int.toNat 8) 64 = ((a * 256 : Nat) : Int) := nrfl rfl
theorem nt1_0 (k : Nat → R) (w : Tok k) : nt1 0 k w = k 0 := nrfl rfl
theorem nt1_1 (k : Nat → R) (w : Tok k) : nt1 1 k w = k 1 := nrfl rfl
theorem nt1_2 (k : Nat → R) (w : Tok k) : nt1 2 k w = k 2 := nrfl rfl
attribute [go_sem] nt1_0 nt1_1 nt1_2
attribute [local go_sem] shl8 sto_put
/-- Three values in a row of three. -/
def Three (h : AH) (id a b c : Nat) : Prop := ∃ cs, T.get h.objs id = some (.cells 3 3 cs) ∧ T.get cs 0 = some (.i .i64 (a : Int)) ∧ T.get cs 1 = some (.i .i64 (b : Int)) ∧ T.get cs 2 = some (.i .i64 (c : Int))
theorem Three.keep {h h' : AH} {id a b c : Nat} (t : Three h id a b c) (e : T.get h'.objs id = T.get h.objs id) : Three h' id a b c := by
  unfold Three
  rw [e]
  exact t
theorem Three.ld {h : AH} {id a b c : Nat} (t : Three h id a b c) (j : Nat) (hj : j < 3) (k : AV → R) (w : Tok k) : ld h (.p id j) k w = k (.i .i64 (([a, b, c].getD j 0 : Nat) : Int)) := by
  obtain ⟨cs, h1, h2, h3, h4⟩ := t
  have : j = 0 ∨ j = 1 ∨ j = 2 := by omega
  rcases this with rfl | rfl | rfl
  · exact ld_p k h id 0 w _ h1 _ (by rw [at_cells, if_pos (by omega), h2]; rfl)
  · exact ld_p k h id 1 w _ h1 _ (by rw [at_cells, if_pos (by omega), h3]; rfl)
  · exact ld_p k h id 2 w _ h1 _ (by rw [at_cells, if_pos (by omega), h4]; rfl)
set_option maxHeartbeats 4000000 in
set_option maxRecDepth 100000 in
theorem f58 {m : Nat} {h : AH} {id w0 w1 : Nat} {cs : T AV} (hm : 10000 ≤ m) (h0 : w0 < 256) (h1 : w1 < 256) (hpos : 1 ≤ w0 * 256 + w1) (hc : T.get h.objs id = some (.cells 3 3 cs)) :
    Runs (fun k => cl Tryz.prog (exec Tryz.prog m) false 58 (.c (.i .i64 (w0 : Int)) (.c (.i .i64 (w1 : Int)) (.c (.sl id 0 3 3) .e))) h k ⟨⟩) fun v h' => v = .tu .e ∧
      Three h' id ((w0 * 256 + w1 - 1) / 1600) ((w0 * 256 + w1 - 1 - (w0 * 256 + w1 - 1) / 1600 * 1600) / 40) (w0 * 256 + w1 - 1 - (w0 * 256 + w1 - 1) / 1600 * 1600 - (w0 * 256 + w1 - 1 - (w0 * 256 + w1 - 1) / 1600 * 1600) / 40 * 40) ∧ Read h h' id := by
  obtain ⟨m, rfl⟩ : ∃ n, m = n + 100 := ⟨m - 100, by omega⟩
  refine Runs.of_eq (fun k => cl_in Tryz.func58 rfl (by kernel_rfl) Tryz.ntmps58 Tryz.results58 rfl rfl _ _ _ _ _ _) ?_
  have hs := sto_of hc
  generalize hV : w0 * 256 + w1 - 1 = V
  have hA : V / 1600 * 1600 ≤ V := Nat.div_mul_le_self V 1600
  have hV2 : V < 70000 := by omega
  generalize hU : V - V / 1600 * 1600 = U
  have hB : U / 40 * 40 ≤ U := Nat.div_mul_le_self U 40
  simp -dsimp (disch := omega) only [go_sem, ↓reduceIte, Nat.reduceAdd, Nat.reduceSub, Nat.reduceMul, Nat.reduceLeDiff, Nat.reduceLT, Nat.reduceEqDiff, Nat.reduceBEq, Int.reduceEq, Int.reduceLT, Int.reduceLE, Int.reduceNeg, Int.reduceAdd, Int.reduceSub, Int.reduceMul, beq_self_eq_true, hs, hV, hU]
  refine Runs.ret ⟨rfl, ⟨_, by simp only [get_put, if_true] <;> rfl, ?_, ?_, ?_⟩, rfl, fun j hj => ?_⟩
  · simp only [get_put, ↓reduceIte, Nat.reduceEqDiff]
  · simp only [get_put, ↓reduceIte, Nat.reduceEqDiff]
  · simp only [get_put, ↓reduceIte, Nat.reduceEqDiff]
  · simp only [get_put]
    repeat rw [if_neg hj]
end Go.Proofs.YtcnallabiffemaaGreatDoor.Vm
