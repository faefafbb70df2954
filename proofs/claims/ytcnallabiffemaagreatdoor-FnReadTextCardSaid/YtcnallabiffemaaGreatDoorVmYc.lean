/- Small numbers as texts, texts as octets, and appends of both. Conditions: numbers below 100. -/
import Derived.Test.YtcnallabiffemaaGreatDoorVmYb
set_option linter.unusedSimpArgs false
set_option linter.unusedVariables false
namespace Go.Proofs.YtcnallabiffemaaGreatDoor.Vm
open Go
noncomputable def layk (kd : IntKind) (cs : T AV) (off : Nat) : List Nat → T AV
  | [] => cs
  | x :: l => layk kd (T.put cs off (.i kd (x : Int))) (off + 1) l
theorem putL_layk (kd : IntKind) : ∀ (l : List Nat) (cs : T AV) (off : Nat) (k : T AV → Nat → R), putL (numL kd l) cs off k = k (layk kd cs off l) (off + l.length)
  | [], cs, off, k => rfl
  | x :: l, cs, off, k => by
    show T.setK cs off (.i kd (x : Int)) (fun cs => forceN (Nat.succ off) fun off => putL (numL kd l) cs off k) = _
    rw [setK_put, forceN_eq, putL_layk kd l]
    show k _ (off + 1 + l.length) = k _ (off + (l.length + 1))
    rw [show off + 1 + l.length = off + (l.length + 1) by omega]
    rfl
theorem get_layk (kd : IntKind) : ∀ (l : List Nat) (cs : T AV) (off j : Nat), T.get (layk kd cs off l) j = if off ≤ j ∧ j < off + l.length then some (.i kd (l.getD (j - off) 0 : Int)) else T.get cs j
  | [], cs, off, j => by
    rw [layk, if_neg]
    simp
  | x :: l, cs, off, j => by
    rw [layk, get_layk kd l, get_put]
    by_cases h : j = off
    · subst h
      rw [if_neg (by omega), if_pos rfl, if_pos (by simp), Nat.sub_self]
      rfl
    · by_cases h2 : off ≤ j ∧ j < off + (x :: l).length
      · rw [if_pos h2, if_pos (by simp only [List.length_cons] at h2; omega), show j - off = (j - (off + 1)) + 1 by omega]
        rfl
      · rw [if_neg h2, if_neg (by simp only [List.length_cons] at h2; omega), if_neg h]
theorem has_layk (kd : IntKind) (cs : T AV) (l : List Nat) : Has kd (layk kd cs 0 l) l := fun j hj => by
  rw [get_layk, if_pos (by omega), Nat.sub_zero, List.getD_eq_getElem?_getD, List.getElem?_eq_getElem hj]
  rfl
theorem bytesL_num (s : ByteArray) : bytesL s = numL .u8 (cs s) := by
  unfold bytesL cs
  induction s.data.toList with
  | nil => rfl
  | cons a l ih =>
    show AV.c _ (toAV (List.map _ l)) = AV.c _ (numL .u8 (List.map _ l))
    rw [ih]
    rfl
theorem ty_cv9_42 : Vm.intOf Tryz.prog 9 42 = none := by kernel_rfl
theorem ty_str42 : isStr Tryz.prog 42 = false := by kernel_rfl
theorem ty_u8_5 : isU8 Tryz.prog 5 = true := by kernel_rfl
theorem ty_cv42_9 : Vm.intOf Tryz.prog 42 9 = none := by kernel_rfl
noncomputable def cvS (h : AH) (v : AV) (k : AV → AH → R) (_ : Tok k) : R := onS v fun s => k (.g h.next s.size) ⟨T.put h.objs h.next (.ro 5 s.size (layk .u8 .leaf 0 (cs s))), h.next + 1⟩
set_option maxRecDepth 100000 in
theorem in_cv9_42 (nt : Nat) (rg : T AV) (h : AH) (dst : Option Tmp) (kk : T AV → AH → R) (x : Operand) : wConv Tryz.prog nt rg h dst kk 9 42 x = oe rg x fun v => cvS h v (fun v h => setR nt rg dst v fun rg => kk rg h) ⟨⟩ := by
  unfold wConv
  rw [ty_cv9_42]
  show oe rg x _ = oe rg x _
  congr 1; funext v
  rw [ty_str42, ty_str9, ty_el42]
  show when true (opt (some 5) fun e => when (isU8 Tryz.prog e) (onS v fun s => putL (bytesL s) .leaf 0 fun cs _ => wNew nt rg h dst kk (.ro e s.size cs) fun id => .g id s.size)) = cvS h v (fun v h => setR nt rg dst v fun rg => kk rg h) ⟨⟩
  rw [when_t, opt_s, ty_u8_5, when_t]
  unfold cvS
  congr 1; funext s
  rw [bytesL_num, putL_layk]
  exact wNew_n nt rg h dst kk (.ro 5 s.size (layk .u8 .leaf 0 (cs s))) fun id => .g id s.size
theorem cvS_s (h : AH) (s : ByteArray) (k : AV → AH → R) (w : Tok k) : cvS h (.s s) k w = k (.g h.next s.size) ⟨T.put h.objs h.next (.ro 5 s.size (layk .u8 .leaf 0 (cs s))), h.next + 1⟩ := nrfl rfl
/-- Onto a slice of octets, those of a text. -/
theorem appRo {m : Nat} {ob : T AO} {nx : Nat} {s : AV} {xs ys : List Nat} {c : T AV} (hs : SlN .u8 5 m ⟨ob, nx⟩ s xs) (hm : m ≤ nx) (hc : Has .u8 c ys) (n : Nat) (hn : ys.length = n) (hy : ys ≠ []) (hlen : xs.length + ys.length < 100000) :
    Apd ⟨T.put ob nx (.ro 5 n c), nx + 1⟩ 42 s (.g nx n) fun v h' => SlN .u8 5 m h' v (xs ++ ys) ∧ Same m ⟨ob, nx⟩ h' ∧ ∀ j, j < nx → ¬ Owns s j → T.get h'.objs j = T.get ob j := by
  subst hn
  have hk := Same.new ob nx (.ro 5 ys.length c)
  have hs' : Sl .u8 5 ⟨T.put ob nx (.ro 5 ys.length c), nx + 1⟩ s xs := hs.sl.keep (Nat.le_succ _) fun j hj => hk.get j (hs.sl.lt hj)
  obtain ⟨v, h', h1, h2, h3, h4, h5⟩ := append_key (t := 42) (x := .g nx ys.length) (ys := ys) (fun nt rg dst kk a b ha hb => by
    unfold wAppend
    rw [ty_el42, opt_s, ty_os5, when_t, Nat.beq_refl, when_t, ty_z5, opt_s, oe_t, ha, opt_s, oe_t, hb, opt_s, onSl_g]
    simp only [get_put, if_true]
    rw [opt_s, takeL_num ys 0 _ fun j hj => by rw [Nat.zero_add, at_ro, if_pos hj]; exact hc j hj]
    rfl) hs' hy (fun j hj e => by have := hs.sl.lt hj; rw [e] at this; exact absurd this (Nat.lt_irrefl _)) hlen
  refine ⟨v, h', h1, ⟨h2, fun j hj => ?_⟩, ⟨by have : nx + 1 ≤ h'.next := h3; show nx ≤ h'.next; omega, fun j hj => ?_⟩, fun j hj hno => ?_⟩
  · rcases h5 j hj with h | h
    · exact hs.own j h
    · have : nx + 1 ≤ j := h
      omega
  · rw [h4 j (by show j < nx + 1; omega) fun ow => absurd (hs.own j ow) (by omega)]
    exact hk.get j (by omega)
  · rw [h4 j (by show j < nx + 1; omega) hno]
    exact hk.get j hj
/-! ### Small numbers -/
def dd (v : Nat) : List Nat := if v < 10 then [48 + v] else [48 + v / 10, 48 + v % 10]
theorem tail36 (L : ByteArray) (h : (List.range 10).all (fun v => decide (((cs L).drop v).take (v + 1 - v) = dd v)) = true) (v : Nat) (hv : v < 10) : ((cs L).drop v).take (v + 1 - v) = dd v := of_decide_eq_true (List.all_eq_true.1 h v (List.mem_range.2 hv))
theorem tail200 (L : ByteArray) (h : (List.range 100).all (fun v => decide (v < 10 ∨ ((cs L).drop (v * 2)).take (v * 2 + 2 - v * 2) = dd v)) = true) (v : Nat) (hv : v < 100) (h10 : ¬ v < 10) : ((cs L).drop (v * 2)).take (v * 2 + 2 - v * 2) = dd v := (of_decide_eq_true (List.all_eq_true.1 h v (List.mem_range.2 hv))).resolve_left h10
set_option maxHeartbeats 4000000 in
set_option maxRecDepth 100000 in
theorem f150 {m v : Nat} {h : AH} (hm : 10000 ≤ m) (hv : v < 100) :
    Runs (fun k => cl Tryz.prog (exec Tryz.prog m) false 150 (.c (.i .i64 (v : Int)) .e) h k ⟨⟩) fun r h' => ∃ s, r = .s s ∧ h' = h ∧ cs s = dd v := by
  obtain ⟨m, rfl⟩ : ∃ n, m = n + 100 := ⟨m - 100, by omega⟩
  refine Runs.of_eq (fun k => cl_in Tryz.func150 rfl (by kernel_rfl) Tryz.ntmps150 Tryz.results150 rfl rfl _ _ _ _ _ _) ?_
  simp -dsimp (disch := omega) only [go_sem, ↓reduceIte, Nat.reduceAdd, Nat.reduceSub, Nat.reduceMul, Nat.reduceLeDiff, Nat.reduceLT, Nat.reduceEqDiff, Nat.reduceBEq, Int.reduceEq, Int.reduceLT, Int.reduceLE, Int.reduceNeg, Int.reduceAdd, Int.reduceSub, Int.reduceMul, beq_self_eq_true]
  refine Runs.brd (fun c1 => ?_) (fun c1 => ?_) <;> simp -dsimp (disch := omega) only [go_sem, ↓reduceIte, Nat.reduceAdd, Nat.reduceSub, Nat.reduceMul, Nat.reduceLeDiff, Nat.reduceLT, Nat.reduceEqDiff, Nat.reduceBEq, Int.reduceEq, Int.reduceLT, Int.reduceLE, Int.reduceNeg, Int.reduceAdd, Int.reduceSub, Int.reduceMul, beq_self_eq_true]
  · refine Runs.of_eq (fun k => subS_n _ v (v + 1) (by omega) (Nat.le_trans (show v + 1 ≤ 36 by omega) (Nat.le_of_eq (by kernel_rfl))) _ _) ?_
    simp -dsimp (disch := omega) only [go_sem, ↓reduceIte, Nat.reduceAdd, Nat.reduceSub, Nat.reduceMul, Nat.reduceLeDiff, Nat.reduceLT, Nat.reduceEqDiff, Nat.reduceBEq, Int.reduceEq, Int.reduceLT, Int.reduceLE, Int.reduceNeg, Int.reduceAdd, Int.reduceSub, Int.reduceMul, beq_self_eq_true]
    refine Runs.ret ⟨_, rfl, rfl, ?_⟩
    rw [cs_extract]
    exact tail36 _ (by kernel_rfl) v (by omega)
  · refine Runs.of_eq (fun k => subS_n _ (v * 2) (v * 2 + 2) (by omega) (Nat.le_trans (show v * 2 + 2 ≤ 200 by omega) (Nat.le_of_eq (by kernel_rfl))) _ _) ?_
    simp -dsimp (disch := omega) only [go_sem, ↓reduceIte, Nat.reduceAdd, Nat.reduceSub, Nat.reduceMul, Nat.reduceLeDiff, Nat.reduceLT, Nat.reduceEqDiff, Nat.reduceBEq, Int.reduceEq, Int.reduceLT, Int.reduceLE, Int.reduceNeg, Int.reduceAdd, Int.reduceSub, Int.reduceMul, beq_self_eq_true]
    refine Runs.ret ⟨_, rfl, rfl, ?_⟩
    rw [cs_extract]
    exact tail200 _ (by kernel_rfl) v hv (by omega)
set_option maxHeartbeats 4000000 in
set_option maxRecDepth 100000 in
theorem f142 {m v : Nat} {h : AH} (hm : 11000 ≤ m) (hv : v < 100) :
    Runs (fun k => cl Tryz.prog (exec Tryz.prog m) false 142 (.c (.i .i64 (v : Int)) (.c (.i .i64 10) .e)) h k ⟨⟩) fun r h' => ∃ s, r = .s s ∧ h' = h ∧ cs s = dd v := by
  obtain ⟨m, rfl⟩ : ∃ n, m = n + 100 := ⟨m - 100, by omega⟩
  refine Runs.of_eq (fun k => cl_in Tryz.func142 rfl (by kernel_rfl) Tryz.ntmps142 Tryz.results142 rfl rfl _ _ _ _ _ _) ?_
  have z1 : (0 : Int) ≤ (v : Int) := by omega
  have z2 : (v : Int) < 100 := by omega
  simp -dsimp (disch := omega) only [go_sem, ↓reduceIte, Nat.reduceAdd, Nat.reduceSub, Nat.reduceMul, Nat.reduceLeDiff, Nat.reduceLT, Nat.reduceEqDiff, Nat.reduceBEq, Int.reduceEq, Int.reduceLT, Int.reduceLE, Int.reduceNeg, Int.reduceAdd, Int.reduceSub, Int.reduceMul, beq_self_eq_true, z1, z2]
  refine Runs.bind (f150 (by omega) hv) ?_
  rintro _ _ ⟨s, rfl, rfl, e⟩
  simp -dsimp (disch := omega) only [go_sem, ↓reduceIte, Nat.reduceAdd, Nat.reduceSub, Nat.reduceMul, Nat.reduceLeDiff, Nat.reduceLT, Nat.reduceEqDiff, Nat.reduceBEq, Int.reduceEq, Int.reduceLT, Int.reduceLE, Int.reduceNeg, Int.reduceAdd, Int.reduceSub, Int.reduceMul, beq_self_eq_true]
  exact Runs.ret ⟨s, rfl, rfl, e⟩
set_option maxHeartbeats 4000000 in
set_option maxRecDepth 100000 in
theorem f118 {m v : Nat} {h : AH} (hm : 12000 ≤ m) (hv : v < 100) :
    Runs (fun k => cl Tryz.prog (exec Tryz.prog m) false 118 (.c (.i .i64 (v : Int)) .e) h k ⟨⟩) fun r h' => ∃ s, r = .s s ∧ h' = h ∧ cs s = dd v := by
  obtain ⟨m, rfl⟩ : ∃ n, m = n + 100 := ⟨m - 100, by omega⟩
  refine Runs.of_eq (fun k => cl_in Tryz.func118 rfl (by kernel_rfl) Tryz.ntmps118 Tryz.results118 rfl rfl _ _ _ _ _ _) ?_
  simp -dsimp (disch := omega) only [go_sem, ↓reduceIte, Nat.reduceAdd, Nat.reduceSub, Nat.reduceMul, Nat.reduceLeDiff, Nat.reduceLT, Nat.reduceEqDiff, Nat.reduceBEq, Int.reduceEq, Int.reduceLT, Int.reduceLE, Int.reduceNeg, Int.reduceAdd, Int.reduceSub, Int.reduceMul, beq_self_eq_true]
  refine Runs.bind (f142 (by omega) hv) ?_
  rintro _ _ ⟨s, rfl, rfl, e⟩
  simp -dsimp (disch := omega) only [go_sem, ↓reduceIte, Nat.reduceAdd, Nat.reduceSub, Nat.reduceMul, Nat.reduceLeDiff, Nat.reduceLT, Nat.reduceEqDiff, Nat.reduceBEq, Int.reduceEq, Int.reduceLT, Int.reduceLE, Int.reduceNeg, Int.reduceAdd, Int.reduceSub, Int.reduceMul, beq_self_eq_true]
  exact Runs.ret ⟨s, rfl, rfl, e⟩
set_option maxHeartbeats 4000000 in
set_option maxRecDepth 100000 in
theorem f56 {m v : Nat} {h : AH} (hm : 13000 ≤ m) (hv : v < 100) :
    Runs (fun k => cl Tryz.prog (exec Tryz.prog m) false 56 (.c (.i .i64 (v : Int)) .e) h k ⟨⟩) fun r h' => ∃ s, r = .s s ∧ h' = h ∧ cs s = dd v := by
  obtain ⟨m, rfl⟩ : ∃ n, m = n + 100 := ⟨m - 100, by omega⟩
  refine Runs.of_eq (fun k => cl_in Tryz.func56 rfl (by kernel_rfl) Tryz.ntmps56 Tryz.results56 rfl rfl _ _ _ _ _ _) ?_
  simp -dsimp (disch := omega) only [go_sem, ↓reduceIte, Nat.reduceAdd, Nat.reduceSub, Nat.reduceMul, Nat.reduceLeDiff, Nat.reduceLT, Nat.reduceEqDiff, Nat.reduceBEq, Int.reduceEq, Int.reduceLT, Int.reduceLE, Int.reduceNeg, Int.reduceAdd, Int.reduceSub, Int.reduceMul, beq_self_eq_true]
  refine Runs.bind (f118 (by omega) hv) ?_
  rintro _ _ ⟨s, rfl, rfl, e⟩
  simp -dsimp (disch := omega) only [go_sem, ↓reduceIte, Nat.reduceAdd, Nat.reduceSub, Nat.reduceMul, Nat.reduceLeDiff, Nat.reduceLT, Nat.reduceEqDiff, Nat.reduceBEq, Int.reduceEq, Int.reduceLT, Int.reduceLE, Int.reduceNeg, Int.reduceAdd, Int.reduceSub, Int.reduceMul, beq_self_eq_true]
  exact Runs.ret ⟨s, rfl, rfl, e⟩
end Go.Proofs.YtcnallabiffemaaGreatDoor.Vm
