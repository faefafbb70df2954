/- The size of a symbol with room: run with letters. Conditions: none. -/
import Derived.Test.YtcnallabiffemaaGreatDoorVmXk
set_option linter.unusedSimpArgs false
set_option linter.unusedVariables false
namespace Go.Proofs.YtcnallabiffemaaGreatDoor.Vm
open Go
attribute [local go_sem ↓] in_alloc27 in_load27 in_store27 in_build27 in_index40 outc2
attribute [local go_sem] ln_sl40 ixA_sl
theorem wrap29 (c : Int) (h0 : -9223372036854775808 ≤ c) (h1 : c < 9223372036854775808) : ∃ q : Nat, q < 29 ∧ IntKind.i64.wrap (c.tmod ((29 : Nat) : Int) + ((29 : Nat) : Int)) = c.tmod ((29 : Nat) : Int) + ((29 : Nat) : Int) ∧ (c.tmod ((29 : Nat) : Int) + ((29 : Nat) : Int)).tmod ((29 : Nat) : Int) = (q : Int) := by
  have a := tmod_bd c ((29 : Nat) : Int) (by omega)
  obtain ⟨q, e1, e2⟩ := tmod_pos (c.tmod ((29 : Nat) : Int) + ((29 : Nat) : Int)) 29 (by omega) (by omega)
  exact ⟨q, e2, wrap_i (by omega) (by omega), e1⟩
theorem sym_lt (j : Nat) : symL.getD (j * 7 + 4) 0 < 2000 := by
  have : ∀ x ∈ symL, x < 2000 := by
    set_option maxRecDepth 100000 in decide
  exact mem_lt (by omega) this _
def row (j : Nat) : List Nat := (symL.drop (j * 7)).take 7
theorem row_len (j : Nat) (h : j < 29) : (row j).length = 7 := by
  unfold row
  rw [List.length_take, List.length_drop, show symL.length = 203 from rfl]
  omega
theorem row_get (j i : Nat) (h : i < 7) : (row j).getD i 0 = symL.getD (j * 7 + i) 0 := by
  unfold row
  rw [getD_take _ _ _ h, List.getD_eq_getElem?_getD, List.getD_eq_getElem?_getD, List.getElem?_drop]
theorem stA_new (ob : T AO) (nx n2 e : Nat) (c : T AV) (r : List Nat) (hr : r.length = 7) (kk : AH → R) (w : Tok kk) : stA 7 ⟨T.put ob nx (.cells e 7 c), n2⟩ (.p nx 0) (.ag (numL .i64 r)) kk w = kk ⟨T.put (T.put ob nx (.cells e 7 c)) nx (.cells e 7 (lay c 0 r)), n2⟩ :=
  stA_num (by simp only [get_put, if_true]) hr kk w
theorem ld4_new (ob : T AO) (nx n2 e : Nat) (c : T AV) (r : List Nat) (hr : r.length = 7) (k : AV → R) (w : Tok k) : ld ⟨T.put ob nx (.cells e 7 (lay c 0 r)), n2⟩ (.p nx 4) k w = k (.i .i64 (r.getD 4 0 : Int)) :=
  ld_p k _ nx 4 w (.cells e 7 (lay c 0 r)) (by simp only [get_put, if_true]) _ (by rw [at_cells, if_pos (by omega), get_lay, if_pos (by omega)])
theorem has_row {cs : T AV} (h : Has .i64 cs symL) (e j : Nat) (hj : j < 29) (i : Nat) (hi : i < (row j).length) : AO.at (.cells e 203 cs) (j * 7 + i) = some (.i .i64 ((row j)[i] : Int)) := by
  have h7 := row_len j hj
  have h8 : j * 7 + i < symL.length := by rw [show symL.length = 203 from rfl]; omega
  rw [at_cells, if_pos (by omega), h _ h8]
  have := row_get j i (by omega)
  rw [List.getD_eq_getElem?_getD, List.getD_eq_getElem?_getD, List.getElem?_eq_getElem h8, List.getElem?_eq_getElem hi] at this
  exact congrArg (fun n : Nat => some (AV.i .i64 (n : Int))) this.symm
set_option maxHeartbeats 4000000 in
set_option maxRecDepth 100000 in
theorem f7 {m b : Nat} {h : AH} {n : Int} (hm : 20000 ≤ m) (h0 : -9223372036854775808 ≤ n) (h1 : n < 9223372036854775808) (hb : b < 100000) :
    Runs (fun k => cl Tryz.prog (exec Tryz.prog m) false 7 (.c (.i .i64 n) (.c (.i .i64 (b : Int)) .e)) h k ⟨⟩) fun r h' => Same h.next h h' ∧ (r = .tu (.c (.ag (numL .i64 zero7)) (.c (.b false) .e)) ∨ (∃ l : List Nat, r = .tu (.c (.ag (numL .i64 l)) (.c (.b true) .e)) ∧ l.length = 7 ∧ b + 3 ≤ l.getD 4 0 ∧ l.getD 4 0 < 2000)) := by
  obtain ⟨m, rfl⟩ : ∃ n, m = n + 100 := ⟨m - 100, by omega⟩
  refine Runs.of_eq (fun k => cl_in Tryz.func7 rfl (by kernel_rfl) Tryz.ntmps7 Tryz.results7 rfl rfl _ _ _ _ _ _) ?_
  simp -dsimp (disch := omega) only [go_sem, ↓reduceIte, Nat.reduceAdd, Nat.reduceSub, Nat.reduceMul, Nat.reduceLeDiff, Nat.reduceLT, Nat.reduceEqDiff, Nat.reduceBEq, Int.reduceEq, Int.reduceLT, Int.reduceLE, Int.reduceNeg, Int.reduceAdd, Int.reduceSub, Int.reduceMul, beq_self_eq_true, Nat.zero_add]
  refine Runs.bind (f14 (by omega)) ?_
  rintro _ _ ⟨rfl, cs, rfl, hcs⟩
  obtain ⟨q, q29, e1, e2⟩ := wrap29 n h0 h1
  have hz : ¬ ((29 : Nat) : Int) = 0 := by omega
  simp -dsimp (disch := omega) only [go_sem, ↓reduceIte, Nat.reduceAdd, Nat.reduceSub, Nat.reduceMul, Nat.reduceLeDiff, Nat.reduceLT, Nat.reduceEqDiff, Nat.reduceBEq, Int.reduceEq, Int.reduceLT, Int.reduceLE, Int.reduceNeg, Int.reduceAdd, Int.reduceSub, Int.reduceMul, beq_self_eq_true, Nat.zero_add, hz, e1, e2]
  generalize hH : (⟨T.put (T.put h.objs h.next (.cells 27 7 (lay .leaf 0 zero7))) (h.next + 1) (.cells 27 203 cs), h.next + 1 + 1⟩ : AH) = H
  have hn : H.next = h.next + 2 := by rw [← hH]
  have g4 : T.get H.objs h.next = some (.cells 27 7 (lay .leaf 0 zero7)) := by rw [← hH]; simp only [get_put, if_true]; rw [if_neg (by omega)]
  have g6 : T.get H.objs (h.next + 1) = some (.cells 27 203 cs) := by rw [← hH]; simp only [get_put, if_true]
  have gs : Same h.next h H := by
    rw [← hH]
    refine ⟨?_, fun j hj => ?_⟩
    · show h.next ≤ h.next + 1 + 1
      omega
    · simp only [get_put]
      rw [if_neg (by omega), if_neg (by omega)]
  refine Runs.loop (loop_rule 12000 (fun i rg h' => ∃ p, p + i = 29 ∧ T.get rg 0 = some (.i .i64 (q : Int)) ∧ T.get rg 1 = some (.i .i64 (b : Int)) ∧ T.get rg 4 = some (.p h.next 0) ∧ T.get rg 6 = some (.sl (h.next + 1) 0 29 29) ∧ T.get rg 21 = some (.i .i64 ((29 : Nat) : Int)) ∧ T.get rg 22 = some (.i .i64 (p : Int)) ∧ Same (h.next + 2) H h')
    (Q := fun e rg h' => T.get rg 4 = some (.p h.next 0) ∧ ((e = .exit 0 ∧ Same (h.next + 2) H h') ∨ (e = .ret ∧ Same h.next H h' ∧ ∃ l : List Nat, T.get rg 5 = some (.b true) ∧ T.get h'.objs h.next = some (.cells 27 7 (lay (lay .leaf 0 zero7) 0 l)) ∧ l.length = 7 ∧ b + 3 ≤ l.getD 4 0 ∧ l.getD 4 0 < 2000))) ?_ 29 _ _ _ (by omega) ⟨0, by omega, (by (try simp only [get_put, ↓reduceIte, Nat.reduceEqDiff]) <;> first | assumption | rfl), (by (try simp only [get_put, ↓reduceIte, Nat.reduceEqDiff]) <;> first | assumption | rfl), (by (try simp only [get_put, ↓reduceIte, Nat.reduceEqDiff]) <;> first | assumption | rfl), (by (try simp only [get_put, ↓reduceIte, Nat.reduceEqDiff]) <;> first | assumption | rfl), (by (try simp only [get_put, ↓reduceIte, Nat.reduceEqDiff]) <;> first | assumption | rfl), (by (try simp only [get_put, ↓reduceIte, Nat.reduceEqDiff]) <;> first | assumption | rfl), Same.rfl'⟩) ?_
  · rintro m i rg h' hm ⟨p, pi, r0, r1, r4, r6, r21, r22, sm⟩
    obtain ⟨m, rfl⟩ : ∃ n, m = n + 100 := ⟨m - 100, by omega⟩
    have g4' : T.get h'.objs h.next = some (.cells 27 7 (lay .leaf 0 zero7)) := by rw [sm.get _ (by omega), g4]
    have g6' : T.get h'.objs (h.next + 1) = some (.cells 27 203 cs) := by rw [sm.get _ (by omega), g6]
    have hj := Nat.mod_lt (q + p) (show 0 < 29 by omega)
    have hrl := row_len _ hj
    have hld : ∀ (k : AV → R) (w : Tok k), ldA 7 h' (.p (h.next + 1) ((q + p) % 29 * 7)) k w = k (.ag (numL .i64 (row ((q + p) % 29)))) := ldA_num g6' hrl (has_row hcs 27 _ hj)
    have hrg := row_get ((q + p) % 29) 4 (by omega)
    have hsl := sym_lt ((q + p) % 29)
    simp -dsimp (disch := omega) only [go_sem, ↓reduceIte, Nat.reduceAdd, Nat.reduceSub, Nat.reduceMul, Nat.reduceLeDiff, Nat.reduceLT, Nat.reduceEqDiff, Nat.reduceBEq, Int.reduceEq, Int.reduceLT, Int.reduceLE, Int.reduceNeg, Int.reduceAdd, Int.reduceSub, Int.reduceMul, beq_self_eq_true, Nat.zero_add, gt_of r0, gt_of r1, gt_of r4, gt_of r6, gt_of r21, gt_of r22]
    refine RunsC.brd (fun c1 => ?_) (fun c1 => ?_) <;> simp -dsimp (disch := omega) only [go_sem, ↓reduceIte, Nat.reduceAdd, Nat.reduceSub, Nat.reduceMul, Nat.reduceLeDiff, Nat.reduceLT, Nat.reduceEqDiff, Nat.reduceBEq, Int.reduceEq, Int.reduceLT, Int.reduceLE, Int.reduceNeg, Int.reduceAdd, Int.reduceSub, Int.reduceMul, beq_self_eq_true, Nat.zero_add, gt_of r0, gt_of r1, gt_of r4, gt_of r6, gt_of r21, gt_of r22, hz, hld, Nat.zero_add, stA_new, ld4_new]
    · have hnx := sm.next
      generalize hK : (⟨T.put (T.put h'.objs h'.next (.cells 27 7 (lay .leaf 0 zero7))) h'.next (.cells 27 7 (lay (lay .leaf 0 zero7) 0 (row ((q + p) % 29)))), h'.next + 1⟩ : AH) = K
      have k4 : T.get K.objs h.next = some (.cells 27 7 (lay .leaf 0 zero7)) := by rw [← hK]; simp only [get_put]; rw [if_neg (by omega), if_neg (by omega)]; exact g4'
      have k8 : T.get K.objs h'.next = some (.cells 27 7 (lay (lay .leaf 0 zero7) 0 (row ((q + p) % 29)))) := by rw [← hK]; simp only [get_put, if_true]
      have kn : K.next = h'.next + 1 := by rw [← hK]
      have ks : ∀ j, j < h.next + 2 → T.get K.objs j = T.get h'.objs j := fun j hj => by rw [← hK]; simp only [get_put]; rw [if_neg (by omega), if_neg (by omega)]
      clear hK
      generalize hR : row ((q + p) % 29) = r at *
      have hld8 : ∀ (k : AV → R) (w : Tok k), ldA 7 K (.p h'.next 0) k w = k (.ag (numL .i64 r)) := ldA_num k8 hrl (lay_at _ _ _ _ (by omega))
      have hst : ∀ (kk : AH → R) (w : Tok kk), stA 7 K (.p h.next 0) (.ag (numL .i64 r)) kk w = kk ⟨T.put K.objs h.next (.cells 27 7 (lay (lay .leaf 0 zero7) 0 r)), K.next⟩ := stA_num k4 hrl
      refine RunsC.brd (fun c2 => ?_) (fun c2 => ?_) <;> simp -dsimp (disch := omega) only [go_sem, ↓reduceIte, Nat.reduceAdd, Nat.reduceSub, Nat.reduceMul, Nat.reduceLeDiff, Nat.reduceLT, Nat.reduceEqDiff, Nat.reduceBEq, Int.reduceEq, Int.reduceLT, Int.reduceLE, Int.reduceNeg, Int.reduceAdd, Int.reduceSub, Int.reduceMul, beq_self_eq_true, Nat.zero_add, gt_of r0, gt_of r1, gt_of r4, gt_of r6, gt_of r21, gt_of r22, hld8, hst]
      · refine RunsC.back ⟨(by (try simp only [get_put, ↓reduceIte, Nat.reduceEqDiff]) <;> first | assumption | rfl), .inr ⟨rfl, ⟨?_, fun j hj => ?_⟩, r, (by (try simp only [get_put, ↓reduceIte, Nat.reduceEqDiff]) <;> first | assumption | rfl), ?_, hrl, by omega, by omega⟩⟩
        · show H.next ≤ K.next
          omega
        · simp only [get_put]
          rw [if_neg (by omega), ks j (by omega), sm.get j (by omega)]
        · simp only [get_put, if_true]
      · exact RunsC.again (29 - (p + 1)) (by omega) ⟨p + 1, by omega, (by (try simp only [get_put, ↓reduceIte, Nat.reduceEqDiff]) <;> first | assumption | rfl), (by (try simp only [get_put, ↓reduceIte, Nat.reduceEqDiff]) <;> first | assumption | rfl), (by (try simp only [get_put, ↓reduceIte, Nat.reduceEqDiff]) <;> first | assumption | rfl), (by (try simp only [get_put, ↓reduceIte, Nat.reduceEqDiff]) <;> first | assumption | rfl), (by (try simp only [get_put, ↓reduceIte, Nat.reduceEqDiff]) <;> first | assumption | rfl), (by (try simp only [get_put, ↓reduceIte, Nat.reduceEqDiff]) <;> first | assumption | rfl), ⟨by omega, fun j hj => by rw [ks j hj, sm.get j hj]⟩⟩
    · exact RunsC.leave ⟨(by (try simp only [get_put, ↓reduceIte, Nat.reduceEqDiff]) <;> first | assumption | rfl), .inl ⟨rfl, sm⟩⟩
  · rintro _ rg h' ⟨r4, ⟨rfl, sm⟩ | ⟨rfl, sm, l, r5, g, l7, l1, l2⟩⟩
    · have g4' : T.get h'.objs h.next = some (.cells 27 7 (lay .leaf 0 zero7)) := by rw [sm.get _ (by omega), g4]
      have hst : ∀ (kk : AH → R) (w : Tok kk), stA 7 h' (.p h.next 0) (.ag (numL .i64 zero7)) kk w = kk ⟨T.put h'.objs h.next (.cells 27 7 (lay (lay .leaf 0 zero7) 0 zero7)), h'.next⟩ := stA_num g4' rfl
      have hld : ∀ (k : AV → R) (w : Tok k), ldA 7 ⟨T.put h'.objs h.next (.cells 27 7 (lay (lay .leaf 0 zero7) 0 zero7)), h'.next⟩ (.p h.next 0) k w = k (.ag (numL .i64 zero7)) := ldA_num (o := .cells 27 7 (lay (lay .leaf 0 zero7) 0 zero7)) (by simp only [get_put, if_true]) rfl (lay_at _ _ _ _ (Nat.le_refl _))
      simp -dsimp (disch := omega) only [go_sem, ↓reduceIte, Nat.reduceAdd, Nat.reduceSub, Nat.reduceMul, Nat.reduceLeDiff, Nat.reduceLT, Nat.reduceEqDiff, Nat.reduceBEq, Int.reduceEq, Int.reduceLT, Int.reduceLE, Int.reduceNeg, Int.reduceAdd, Int.reduceSub, Int.reduceMul, beq_self_eq_true, Nat.zero_add, gt_of r4, hst, hld]
      refine Runs.ret ⟨?_, .inl rfl⟩
      refine gs.trans ⟨sm.next, fun j hj => ?_⟩
      simp only [get_put]
      rw [if_neg (by omega), sm.get j (by omega)]
    · have hld : ∀ (k : AV → R) (w : Tok k), ldA 7 h' (.p h.next 0) k w = k (.ag (numL .i64 l)) := ldA_num g l7 (lay_at _ _ _ _ (by omega))
      simp -dsimp (disch := omega) only [go_sem, ↓reduceIte, Nat.reduceAdd, Nat.reduceSub, Nat.reduceMul, Nat.reduceLeDiff, Nat.reduceLT, Nat.reduceEqDiff, Nat.reduceBEq, Int.reduceEq, Int.reduceLT, Int.reduceLE, Int.reduceNeg, Int.reduceAdd, Int.reduceSub, Int.reduceMul, beq_self_eq_true, Nat.zero_add, gt_of r4, gt_of r5, hld]
      exact Runs.ret ⟨gs.trans sm, .inr ⟨l, rfl, l7, l1, l2⟩⟩
end Go.Proofs.YtcnallabiffemaaGreatDoor.Vm
