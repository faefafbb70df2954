/- Rows of slices, and octets as a text: run with letters. Conditions: octets below 128. -/
import Derived.Test.YtcnallabiffemaaGreatDoorVmYg
set_option linter.unusedSimpArgs false
set_option linter.unusedVariables false
namespace Go.Proofs.YtcnallabiffemaaGreatDoor.Vm
open Go
attribute [local go_sem] br_dt br_df
/-- A row of slices, by its length alone. -/
inductive SlV (h : AH) : AV → Nat → Prop where
  | ns : SlV h .ns 0
  | g (id n : Nat) (cs : T AV) (hid : id < h.next) (ho : T.get h.objs id = some (.grow 42 n cs)) : SlV h (.g id n) n
  | sl (id n cap : Nat) (cs : T AV) (hid : id < h.next) (ho : T.get h.objs id = some (.cells 42 cap cs)) (hc : n ≤ cap) : SlV h (.sl id 0 n cap) n
theorem SlV.keep {h h' : AH} {v : AV} {n : Nat} (hs : SlV h v n) (hn : h.next ≤ h'.next) (hk : ∀ j, Owns v j → T.get h'.objs j = T.get h.objs j) : SlV h' v n := by
  cases hs with
  | ns => exact .ns
  | g id n cs hid ho => exact .g id n cs (by omega) (by rw [hk id rfl]; exact ho)
  | sl id n cap cs hid ho hc => exact .sl id n cap cs (by omega) (by rw [hk id rfl]; exact ho) hc
theorem SlV.lt {h : AH} {v : AV} {n : Nat} (hs : SlV h v n) {j : Nat} (hj : Owns v j) : j < h.next := by
  cases hs with
  | ns => exact hj.elim
  | g id n cs hid ho => cases hj; exact hid
  | sl id n cap cs hid ho hc => cases hj; exact hid
theorem SlV.ln {h : AH} {v : AV} {n : Nat} (hs : SlV h v n) (k : AV → R) (w : Tok k) : ln 34 v k w = k (.i .i64 (n : Int)) := by
  cases hs with
  | ns => exact ln_n34 k w
  | g id n cs hid ho => exact ln_g34 _ _ k w
  | sl id n cap cs hid ho hc => exact ln_sl34 _ _ _ _ k w
theorem ty_os42' : (one Tryz.prog 42 && small Tryz.prog 42) = true := ty_os42
theorem appV {ob : T AO} {nx : Nat} {s x : AV} {k : Nat} (hs : SlV ⟨ob, nx⟩ s k) (hx : scalar x = true) (hlen : k + 1 < 100000) :
    Apd ⟨T.put ob nx (.cells 42 1 (T.put (T.full (some .ns) depthC) 0 x)), nx + 1⟩ 34 s (.sl nx 0 1 1) fun v h' => SlV h' v (k + 1) ∧ nx ≤ h'.next ∧ (∀ j, j < nx → ¬ Owns s j → T.get h'.objs j = T.get ob j) ∧ ∀ j, Owns v j → Owns s j ∨ nx ≤ j := by
  have key : ∀ nt rg dst (kk : T AV → AH → R) a b, T.get rg a = some s → T.get rg b = some (.sl nx 0 1 1) → wAppend Tryz.prog nt rg ⟨T.put ob nx (.cells 42 1 (T.put (T.full (some .ns) depthC) 0 x)), nx + 1⟩ dst kk 34 34 (.tmp a) (.tmp b) =
      onSl s (fun id off len cap => wIn nt rg ⟨T.put ob nx (.cells 42 1 (T.put (T.full (some .ns) depthC) 0 x)), nx + 1⟩ dst kk 42 id off len cap (.c x .e)) (fun id len => wMore nt rg ⟨T.put ob nx (.cells 42 1 (T.put (T.full (some .ns) depthC) 0 x)), nx + 1⟩ dst kk 42 id len nx (.c x .e)) (wFirst nt rg ⟨T.put ob nx (.cells 42 1 (T.put (T.full (some .ns) depthC) 0 x)), nx + 1⟩ dst kk 42 (.c x .e)) := by
    intro nt rg dst kk a b ha hb
    unfold wAppend
    rw [ty_el34, opt_s, ty_os42, when_t, Nat.beq_refl, when_t, ty_z42, opt_s, oe_t, ha, opt_s, oe_t, hb, opt_s, onSl_sl]
    simp only [get_put, if_true]
    rw [opt_s]
    show opt (AO.at (.cells 42 1 (T.put (T.full (some .ns) depthC) 0 x)) 0) (fun v => forceN (Nat.succ 0) fun off => _) = _
    rw [at_cells, if_pos (by omega), get_put, if_pos rfl, opt_s, forceN_eq]
    rfl
  have hput : ∀ (cs : T AV) (n : Nat) (kk : T AV → Nat → R), putL (.c x .e) cs n kk = kk (T.put cs n x) (n + 1) := fun cs n kk => by
    show when (scalar x) (T.setK cs n x fun cs => forceN (Nat.succ n) fun off => kk cs off) = _
    rw [hx, when_t, setK_put, forceN_eq]
  cases hs with
  | ns =>
    refine ⟨.g (nx + 1) 1, ⟨T.put (T.put ob nx (.cells 42 1 (T.put (T.full (some .ns) depthC) 0 x))) (nx + 1) (.grow 42 1 (T.put (T.full none depthC) 0 x)), nx + 1 + 1⟩, fun nt rg dst kk a b ha hb => ?_, .g _ 1 _ (Nat.lt_succ_self _) (by simp only [get_put, if_true] <;> rfl), by show nx ≤ nx + 1 + 1; omega, fun j hj _ => ?_, fun j hj => .inr (by cases hj; omega)⟩
    · rw [key nt rg dst kk a b ha hb, onSl_ns]
      show putL (.c x .e) (T.full none depthC) 0 _ = _
      rw [hput]
      show when (Nat.blt 1 100000) _ = _
      rw [show Nat.blt 1 100000 = true from rfl, when_t, wNew_n]
    · simp only [get_put]
      rw [if_neg (by omega), if_neg (by omega)]
  | g id n cs hid ho =>
    have hid' : id < nx := hid
    have ho' : T.get ob id = some (.grow 42 k cs) := ho
    refine ⟨.g (nx + 1) (k + 1), ⟨T.put (T.put (T.put ob nx (.cells 42 1 (T.put (T.full (some .ns) depthC) 0 x))) id .dead) (nx + 1) (.grow 42 (k + 1) (T.put cs k x)), nx + 1 + 1⟩, fun nt rg dst kk a b ha hb => ?_, .g _ _ _ (Nat.lt_succ_self _) (by simp only [get_put, if_true] <;> rfl), by show nx ≤ nx + 1 + 1; omega, fun j hj hno => ?_, fun j hj => .inr (by cases hj; omega)⟩
    · rw [key nt rg dst kk a b ha hb, onSl_g]
      unfold wMore
      show opt (T.get (T.put ob nx _) id) _ = _
      rw [get_put, if_neg (by omega), ho', opt_s]
      show when (Nat.beq k k) (when (Nat.beq 42 42) (when (!Nat.beq id nx) (putL (.c x .e) cs k _))) = _
      rw [Nat.beq_refl, when_t, Nat.beq_refl, when_t, show Nat.beq id nx = false from Bool.eq_false_iff.2 fun e => by have := Nat.eq_of_beq_eq_true e; omega, Bool.not_false, when_t, hput, blt_eq, decide_eq_true (by omega), when_t, setK_put, wNew_n]
    · simp only [get_put]
      rw [if_neg (by omega), if_neg (fun e => hno e.symm), if_neg (by omega)]
  | sl id n cap cs hid ho hc =>
    have hid' : id < nx := hid
    have ho' : T.get ob id = some (.cells 42 cap cs) := ho
    by_cases hroom : k + 1 ≤ cap
    · refine ⟨.sl id 0 (k + 1) cap, ⟨T.put (T.put ob nx (.cells 42 1 (T.put (T.full (some .ns) depthC) 0 x))) id (.cells 42 cap (T.put cs k x)), nx + 1⟩, fun nt rg dst kk a b ha hb => ?_, .sl _ _ _ _ (by show id < nx + 1; omega) (by simp only [get_put, if_true] <;> rfl) hroom, by show nx ≤ nx + 1; omega, fun j hj hno => ?_, fun j hj => .inl hj⟩
      · rw [key nt rg dst kk a b ha hb, onSl_sl]
        unfold wIn
        rw [Nat.beq_refl, when_t]
        show opt (T.get (T.put ob nx _) id) _ = _
        rw [get_put, if_neg (by omega), ho', opt_s, onCells_c, Nat.beq_refl, when_t, ble_eq, decide_eq_true hc, when_t, hput]
        simp only [ble_eq, decide_eq_true hroom]
        exact wObj_n _ _ _ _ _ _ _ _
      · simp only [get_put]
        rw [if_neg (fun e => hno e.symm), if_neg (by omega)]
    · refine ⟨.g (nx + 1) (k + 1), ⟨T.put (T.put ob nx (.cells 42 1 (T.put (T.full (some .ns) depthC) 0 x))) (nx + 1) (.grow 42 (k + 1) (T.put cs k x)), nx + 1 + 1⟩, fun nt rg dst kk a b ha hb => ?_, .g _ _ _ (Nat.lt_succ_self _) (by simp only [get_put, if_true] <;> rfl), by show nx ≤ nx + 1 + 1; omega, fun j hj hno => ?_, fun j hj => .inr (by cases hj; omega)⟩
      · rw [key nt rg dst kk a b ha hb, onSl_sl]
        unfold wIn
        rw [Nat.beq_refl, when_t]
        show opt (T.get (T.put ob nx _) id) _ = _
        rw [get_put, if_neg (by omega), ho', opt_s, onCells_c, Nat.beq_refl, when_t, ble_eq, decide_eq_true hc, when_t, hput]
        simp only [ble_eq, blt_eq, decide_eq_false hroom, show decide (k + 1 < 100000) = true from decide_eq_true hlen, hc, decide_true, when_t]
        exact wNew_n _ _ _ _ _ _ _
      · simp only [get_put]
        rw [if_neg (by omega), if_neg (by omega)]
theorem wrap_u32 {n : Int} (h0 : 0 ≤ n) (h1 : n < 4294967296) : IntKind.u32.wrap n = n := by rw [IntKind.wrap_u32]; omega
theorem wrap_i32 {n : Int} (h0 : 0 ≤ n) (h1 : n < 2147483648) : IntKind.i32.wrap n = n := by rw [IntKind.wrap_i32]; omega
attribute [local go_sem] wrap_u32 wrap_i32
set_option maxHeartbeats 4000000 in
set_option maxRecDepth 100000 in
theorem f120 {m r : Nat} {h : AH} {v : AV} {xs : List Nat} (hm : 10000 ≤ m) (hr : r < 128) (hs : Sl .u8 5 h v xs) (hl : xs.length + 1 < 100000) :
    Runs (fun k => cl Tryz.prog (exec Tryz.prog m) false 120 (.c v (.c (.i .i32 (r : Int)) .e)) h k ⟨⟩) fun u h' => Sl .u8 5 h' u (xs ++ [r]) ∧ h.next ≤ h'.next ∧ (∀ j, j < h.next → ¬ Owns v j → T.get h'.objs j = T.get h.objs j) ∧ ∀ j, Owns u j → Owns v j ∨ h.next ≤ j := by
  obtain ⟨m, rfl⟩ : ∃ n, m = n + 100 := ⟨m - 100, by omega⟩
  refine Runs.of_eq (fun k => cl_in Tryz.func120 rfl (by kernel_rfl) Tryz.ntmps120 Tryz.results120 rfl rfl _ _ _ _ _ _) ?_
  simp -dsimp (disch := omega) only [go_sem, ↓reduceIte, Nat.reduceAdd, Nat.reduceSub, Nat.reduceMul, Nat.reduceLeDiff, Nat.reduceLT, Nat.reduceEqDiff, Nat.reduceBEq, Int.reduceEq, Int.reduceLT, Int.reduceLE, Int.reduceNeg, Int.reduceAdd, Int.reduceSub, Int.reduceMul, beq_self_eq_true, Nat.zero_add]
  refine Runs.app (app1s hs _ (by omega)) (by (try simp only [get_put, ↓reduceIte, Nat.reduceEqDiff]) <;> first | assumption | rfl) (by (try simp only [get_put, ↓reduceIte, Nat.reduceEqDiff]) <;> first | assumption | rfl) ?_
  rintro v' h3 ⟨b1, b2, b3, b4⟩
  simp -dsimp (disch := omega) only [go_sem, ↓reduceIte, Nat.reduceAdd, Nat.reduceSub, Nat.reduceMul, Nat.reduceLeDiff, Nat.reduceLT, Nat.reduceEqDiff, Nat.reduceBEq, Int.reduceEq, Int.reduceLT, Int.reduceLE, Int.reduceNeg, Int.reduceAdd, Int.reduceSub, Int.reduceMul, beq_self_eq_true, Nat.zero_add]
  exact Runs.ret ⟨b1, b2, b3, b4⟩
theorem ty_sl116 : isSlice Tryz.prog 116 = false := by kernel_rfl
theorem in_bin116 (rg : T AV) (k : AV → R) (x y : Operand) (op : BinOp) : pBin Tryz.prog rg k op 116 x y = oe rg x fun a => oe rg y fun b => bop Tryz.prog op 116 (isC x || isC y) a b k := pBin_n _ _ _ _ _ _ _ ty_sl116
attribute [local go_sem ↓] in_bin116
set_option maxHeartbeats 4000000 in
set_option maxRecDepth 100000 in
theorem f66 {m : Nat} {h : AH} {b : AV} {ys : List Nat} (hm : 20000 ≤ m) (hb : Sl .u8 5 h b ys) (hlt : ∀ x ∈ ys, x < 128) (hl : ys.length < 5000) :
    Runs (fun k => cl Tryz.prog (exec Tryz.prog m) false 66 (.c (.i .i64 1) (.c .ns (.c b .e))) h k ⟨⟩) fun r h' => ∃ u, r = .tu (.c u (.c .ni .e)) ∧ SlN .u8 5 h.next h' u ys ∧ Same h.next h h' := by
  obtain ⟨m, rfl⟩ : ∃ n, m = n + 100 := ⟨m - 100, by omega⟩
  refine Runs.of_eq (fun k => cl_in Tryz.func66 rfl (by kernel_rfl) Tryz.ntmps66 Tryz.results66 rfl rfl _ _ _ _ _ _) ?_
  simp -dsimp (disch := omega) only [go_sem, ↓reduceIte, Nat.reduceAdd, Nat.reduceSub, Nat.reduceMul, Nat.reduceLeDiff, Nat.reduceLT, Nat.reduceEqDiff, Nat.reduceBEq, Int.reduceEq, Int.reduceLT, Int.reduceLE, Int.reduceNeg, Int.reduceAdd, Int.reduceSub, Int.reduceMul, beq_self_eq_true, Nat.zero_add, hb.ln42]
  refine Runs.loop (loop_rule 12000 (fun i rg h' => ∃ p v, p + i = ys.length ∧ T.get rg 29 = some b ∧ T.get rg 30 = some (.i .i64 (ys.length : Int)) ∧ T.get rg 31 = some (.i .i64 (p : Int)) ∧ T.get rg 1 = some v ∧ T.get rg 0 = some (.i .i64 1) ∧ SlN .u8 5 h.next h' v (ys.take p) ∧ Same h.next h h')
    (Q := fun e rg h' => e = .exit 2 ∧ ∃ v, T.get rg 1 = some v ∧ SlN .u8 5 h.next h' v ys ∧ Same h.next h h') ?_ ys.length _ _ _ (by omega) ⟨0, .ns, by omega, (by (try simp only [get_put, ↓reduceIte, Nat.reduceEqDiff]) <;> first | assumption | rfl), (by (try simp only [get_put, ↓reduceIte, Nat.reduceEqDiff]) <;> first | assumption | rfl), (by (try simp only [get_put, ↓reduceIte, Nat.reduceEqDiff]) <;> first | assumption | rfl), (by (try simp only [get_put, ↓reduceIte, Nat.reduceEqDiff]) <;> first | assumption | rfl), (by (try simp only [get_put, ↓reduceIte, Nat.reduceEqDiff]) <;> first | assumption | rfl), SlN.nil, Same.rfl'⟩) ?_
  · rintro m i rg h' hm ⟨p, v, pi, r29, r30, r31, r1, r0, sl, sm⟩
    obtain ⟨m, rfl⟩ : ∃ n, m = n + 100 := ⟨m - 100, by omega⟩
    have hbl := hb.keep sm.next fun j hj => sm.get j (hb.lt hj)
    have hx := mem_lt (by omega) hlt p
    simp -dsimp (disch := omega) only [go_sem, ↓reduceIte, Nat.reduceAdd, Nat.reduceSub, Nat.reduceMul, Nat.reduceLeDiff, Nat.reduceLT, Nat.reduceEqDiff, Nat.reduceBEq, Int.reduceEq, Int.reduceLT, Int.reduceLE, Int.reduceNeg, Int.reduceAdd, Int.reduceSub, Int.reduceMul, beq_self_eq_true, Nat.zero_add, gt_of r0, gt_of r1, gt_of r29, gt_of r30, gt_of r31]
    by_cases c1 : p < ys.length
    · simp -dsimp (disch := omega) only [go_sem, ↓reduceIte, Nat.reduceAdd, Nat.reduceSub, Nat.reduceMul, Nat.reduceLeDiff, Nat.reduceLT, Nat.reduceEqDiff, Nat.reduceBEq, Int.reduceEq, Int.reduceLT, Int.reduceLE, Int.reduceNeg, Int.reduceAdd, Int.reduceSub, Int.reduceMul, beq_self_eq_true, Nat.zero_add, gt_of r0, gt_of r1, gt_of r29, gt_of r30, gt_of r31, hbl.ix, hbl.ld]
      refine RunsC.bind (f120 (by omega) hx sl.sl (by rw [List.length_take]; omega)) ?_
      rintro u h3 ⟨b1, b2, b3, b4⟩
      simp -dsimp (disch := omega) only [go_sem, ↓reduceIte, Nat.reduceAdd, Nat.reduceSub, Nat.reduceMul, Nat.reduceLeDiff, Nat.reduceLT, Nat.reduceEqDiff, Nat.reduceBEq, Int.reduceEq, Int.reduceLT, Int.reduceLE, Int.reduceNeg, Int.reduceAdd, Int.reduceSub, Int.reduceMul, beq_self_eq_true, Nat.zero_add, gt_of r0, gt_of r1, gt_of r29, gt_of r30, gt_of r31]
      refine RunsC.again (ys.length - (p + 1)) (by omega) ⟨p + 1, u, by omega, (by (try simp only [get_put, ↓reduceIte, Nat.reduceEqDiff]) <;> first | assumption | rfl), (by (try simp only [get_put, ↓reduceIte, Nat.reduceEqDiff]) <;> first | assumption | rfl), (by (try simp only [get_put, ↓reduceIte, Nat.reduceEqDiff]) <;> first | assumption | rfl), (by (try simp only [get_put, ↓reduceIte, Nat.reduceEqDiff]) <;> first | assumption | rfl), (by (try simp only [get_put, ↓reduceIte, Nat.reduceEqDiff]) <;> first | assumption | rfl), ⟨?_, fun j hj => ?_⟩, sm.trans ⟨b2, fun j hj => b3 j (Nat.lt_of_lt_of_le hj sm.next) fun ho => absurd (sl.own j ho) (by omega)⟩⟩
      · rw [List.take_add_one, List.getElem?_eq_getElem (by omega)]
        rw [List.getD_eq_getElem?_getD, List.getElem?_eq_getElem (by omega)] at b1
        exact b1
      · rcases b4 j hj with h | h
        · exact sl.own j h
        · exact Nat.le_trans sm.next h
    · obtain rfl : p = ys.length := by omega
      simp -dsimp (disch := omega) only [go_sem, ↓reduceIte, Nat.reduceAdd, Nat.reduceSub, Nat.reduceMul, Nat.reduceLeDiff, Nat.reduceLT, Nat.reduceEqDiff, Nat.reduceBEq, Int.reduceEq, Int.reduceLT, Int.reduceLE, Int.reduceNeg, Int.reduceAdd, Int.reduceSub, Int.reduceMul, beq_self_eq_true, Nat.zero_add, gt_of r0, gt_of r1, gt_of r29, gt_of r30, gt_of r31]
      rw [List.take_length] at sl
      exact RunsC.leave ⟨rfl, v, (by (try simp only [get_put, ↓reduceIte, Nat.reduceEqDiff]) <;> first | assumption | rfl), sl, sm⟩
  · rintro _ rg h' ⟨rfl, v, r1, sl, sm⟩
    simp -dsimp (disch := omega) only [go_sem, ↓reduceIte, Nat.reduceAdd, Nat.reduceSub, Nat.reduceMul, Nat.reduceLeDiff, Nat.reduceLT, Nat.reduceEqDiff, Nat.reduceBEq, Int.reduceEq, Int.reduceLT, Int.reduceLE, Int.reduceNeg, Int.reduceAdd, Int.reduceSub, Int.reduceMul, beq_self_eq_true, Nat.zero_add, gt_of r1]
    exact Runs.ret ⟨v, rfl, sl, sm⟩
end Go.Proofs.YtcnallabiffemaaGreatDoor.Vm
