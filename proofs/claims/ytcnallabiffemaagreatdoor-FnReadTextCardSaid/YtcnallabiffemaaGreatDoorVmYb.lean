/- Reading bits: run with letters. Conditions: the bits are there; eight at an octet's head, or six at an even place. -/
import Derived.Test.YtcnallabiffemaaGreatDoorVmYa
set_option linter.unusedSimpArgs false
set_option linter.unusedVariables false
namespace Go.Proofs.YtcnallabiffemaaGreatDoor.Vm
open Go
theorem ld_put (ob : T AO) (id nx e n off : Nat) (c : T AV) (k : AV → R) (w : Tok k) (ho : off < n) : ld ⟨T.put ob id (.cells e n c), nx⟩ (.p id off) k w = gt c off k ⟨⟩ := by
  show opt (T.get (T.put ob id (.cells e n c)) id) (fun o => opt (AO.at o off) k) = opt (T.get c off) k
  rw [get_put, if_pos rfl, opt_s, at_cells, if_pos ho]
theorem ld_oth (ob : T AO) (b id nx off : Nat) (o : AO) (k : AV → R) (w : Tok k) (hne : id ≠ b) : ld ⟨T.put ob b o, nx⟩ (.p id off) k w = ld ⟨ob, nx⟩ (.p id off) k w := by
  show opt (T.get (T.put ob b o) id) (fun o => opt (AO.at o off) k) = opt (T.get ob id) _
  rw [get_put, if_neg hne]
theorem sto_of {h : AH} {id e n : Nat} {c : T AV} (h1 : T.get h.objs id = some (.cells e n c)) (off : Nat) (v : AV) (kk : AH → R) (w : Tok kk) (ho : off < n) : sto h (.p id off) v kk w = chk (scalar v) (kk ⟨T.put h.objs id (.cells e n (T.put c off v)), h.next⟩) ⟨⟩ := by
  show opt (T.get h.objs id) (fun o => onCells o fun e size cs => when (scalar v) (when (decide (off < size)) (kk ⟨T.put h.objs id (.cells e size (T.put cs off v)), h.next⟩))) = _
  rw [h1, opt_s, onCells_c, decide_eq_true ho]
  rfl
theorem sto_put (ob : T AO) (id nx e n off : Nat) (c : T AV) (v : AV) (kk : AH → R) (w : Tok kk) (ho : off < n) : sto ⟨T.put ob id (.cells e n c), nx⟩ (.p id off) v kk w = chk (scalar v) (kk ⟨T.put (T.put ob id (.cells e n c)) id (.cells e n (T.put c off v)), nx⟩) ⟨⟩ :=
  sto_of (h := ⟨T.put ob id (.cells e n c), nx⟩) (by simp only [get_put, if_true]) off v kk w ho
theorem lp_un (P : Program) (m : Nat) (q : Bool) (nt : Nat) (c : Code) (rg : T AV) (h : AH) (k : AX → T AV → AH → R) (w : Tok (c, rg, h, k)) : lp P (m + 1) q nt c rg h k w = exec P m q nt c rg h (kSeq (exec P m) q nt (.loop c) k) := nrfl rfl
theorem onNc_pp (a b : Nat) (k : AV → R) : onNc (.p a b) k = k (.p a b) := nrfl rfl
theorem wrap_u64 {n : Int} (h0 : 0 ≤ n) (h1 : n < 18446744073709551616) : IntKind.u64.wrap n = n := by rw [IntKind.wrap_u64]; omega
theorem cl2 : ((2 : Nat) : Int) = 2 := nrfl rfl
theorem cl4 : ((4 : Nat) : Int) = 4 := nrfl rfl
theorem cl6 : ((6 : Nat) : Int) = 6 := nrfl rfl
attribute [local go_sem] cl2 cl4 cl6
attribute [local go_sem ↓] lp_un
attribute [local go_sem] ld_put ld_oth sto_put wrap_u64
/-- What stays when bits are read. -/
def Read (h h' : AH) (bs : Nat) : Prop := h'.next = h.next ∧ ∀ j, j ≠ bs → T.get h'.objs j = T.get h.objs j
theorem all256 {P : Nat → Bool} (h : (List.range 256).all P = true) (a : Nat) (ha : a < 256) : P a = true := List.all_eq_true.1 h a (List.mem_range.2 ha)
def C2 (k : Int) (r q : Int) : Int := IntKind.i64.wrap (((BitVec.ofInt IntKind.i64.bits (IntKind.i64.wrap (r * 2 ^ min (Int.toNat k) 64)) ||| BitVec.ofInt IntKind.i64.bits q).toNat : Nat) : Int)
theorem c2_2 (r q : Nat) (hr : r < 16) (hq : q < 4) : C2 2 (r : Int) (q : Int) = ((r * 4 + q : Nat) : Int) := by
  have h : (List.range 16).all (fun r => (List.range 4).all fun q => decide (C2 2 (r : Int) (q : Int) = ((r * 4 + q : Nat) : Int))) = true := by kernel_rfl
  exact of_decide_eq_true (List.all_eq_true.1 (List.all_eq_true.1 h r (List.mem_range.2 hr)) q (List.mem_range.2 hq))
theorem c2_4 (r q : Nat) (hr : r < 4) (hq : q < 16) : C2 4 (r : Int) (q : Int) = ((r * 16 + q : Nat) : Int) := by
  have h : (List.range 4).all (fun r => (List.range 16).all fun q => decide (C2 4 (r : Int) (q : Int) = ((r * 16 + q : Nat) : Int))) = true := by kernel_rfl
  exact of_decide_eq_true (List.all_eq_true.1 (List.all_eq_true.1 h r (List.mem_range.2 hr)) q (List.mem_range.2 hq))
def E80 (a : Nat) : Int := IntKind.i64.wrap (((BitVec.ofInt IntKind.i64.bits (0 * 2 ^ min (Int.toNat 8) 64) ||| BitVec.ofInt IntKind.i64.bits (IntKind.i64.wrap (IntKind.u8.wrap (((BitVec.ofInt IntKind.u8.bits (a : Int) &&& BitVec.ofInt IntKind.u8.bits 255).toNat : Nat) : Int)))).toNat : Nat) : Int)
def E60 (a : Nat) : Int := IntKind.i64.wrap (((BitVec.ofInt IntKind.i64.bits (0 * 2 ^ min (Int.toNat 6) 64) ||| BitVec.ofInt IntKind.i64.bits (IntKind.i64.wrap (Int.fdiv (IntKind.u8.wrap (((BitVec.ofInt IntKind.u8.bits (a : Int) &&& BitVec.ofInt IntKind.u8.bits (IntKind.u8.wrap (Int.fdiv 255 (2 ^ min (Int.toNat 2) 8) * 2 ^ min (Int.toNat 2) 8))).toNat : Nat) : Int)) (2 ^ min (Int.toNat 2) 8)))).toNat : Nat) : Int)
def L2 (a : Nat) : Int := Int.fdiv (IntKind.i64.wrap (IntKind.u8.wrap (((BitVec.ofInt IntKind.u8.bits (a : Int) &&& BitVec.ofInt IntKind.u8.bits (IntKind.u8.wrap (Int.fdiv 255 (2 ^ min (Int.toNat 2) 8) * 2 ^ min (Int.toNat 0) 8))).toNat : Nat) : Int))) (2 ^ min (Int.toNat 0) 64)
def L4 (a : Nat) : Int := Int.fdiv (IntKind.i64.wrap (IntKind.u8.wrap (((BitVec.ofInt IntKind.u8.bits (a : Int) &&& BitVec.ofInt IntKind.u8.bits (IntKind.u8.wrap (Int.fdiv 255 (2 ^ min (Int.toNat 4) 8) * 2 ^ min (Int.toNat 0) 8))).toNat : Nat) : Int))) (2 ^ min (Int.toNat 0) 64)
def L6 (a : Nat) : Int := Int.fdiv (IntKind.i64.wrap (IntKind.u8.wrap (((BitVec.ofInt IntKind.u8.bits (a : Int) &&& BitVec.ofInt IntKind.u8.bits (IntKind.u8.wrap (Int.fdiv 255 (2 ^ min (Int.toNat 6) 8) * 2 ^ min (Int.toNat 0) 8))).toNat : Nat) : Int))) (2 ^ min (Int.toNat 0) 64)
def R4 (a : Nat) : Int := IntKind.i64.wrap (Int.fdiv (IntKind.u8.wrap (((BitVec.ofInt IntKind.u8.bits (a : Int) &&& BitVec.ofInt IntKind.u8.bits (IntKind.u8.wrap (Int.fdiv 255 (2 ^ min (Int.toNat 4) 8) * 2 ^ min (Int.toNat 4) 8))).toNat : Nat) : Int)) (2 ^ min (Int.toNat 4) 8))
def R6 (a : Nat) : Int := IntKind.i64.wrap (Int.fdiv (IntKind.u8.wrap (((BitVec.ofInt IntKind.u8.bits (a : Int) &&& BitVec.ofInt IntKind.u8.bits (IntKind.u8.wrap (Int.fdiv 255 (2 ^ min (Int.toNat 6) 8) * 2 ^ min (Int.toNat 6) 8))).toNat : Nat) : Int)) (2 ^ min (Int.toNat 6) 8))
theorem E80_eq (a : Nat) (ha : a < 256) : E80 a = ((a : Nat) : Int) := of_decide_eq_true (all256 (P := fun a => decide (E80 a = ((a : Nat) : Int))) (by kernel_rfl) a ha)
theorem E60_eq (a : Nat) (ha : a < 256) : E60 a = ((a / 4 : Nat) : Int) := of_decide_eq_true (all256 (P := fun a => decide (E60 a = ((a / 4 : Nat) : Int))) (by kernel_rfl) a ha)
theorem L2_eq (a : Nat) (ha : a < 256) : L2 a = ((a % 64 : Nat) : Int) := of_decide_eq_true (all256 (P := fun a => decide (L2 a = ((a % 64 : Nat) : Int))) (by kernel_rfl) a ha)
theorem L4_eq (a : Nat) (ha : a < 256) : L4 a = ((a % 16 : Nat) : Int) := of_decide_eq_true (all256 (P := fun a => decide (L4 a = ((a % 16 : Nat) : Int))) (by kernel_rfl) a ha)
theorem L6_eq (a : Nat) (ha : a < 256) : L6 a = ((a % 4 : Nat) : Int) := of_decide_eq_true (all256 (P := fun a => decide (L6 a = ((a % 4 : Nat) : Int))) (by kernel_rfl) a ha)
theorem R6_eq (a : Nat) (ha : a < 256) : R6 a = ((a / 64 : Nat) : Int) := of_decide_eq_true (all256 (P := fun a => decide (R6 a = ((a / 64 : Nat) : Int))) (by kernel_rfl) a ha)
theorem R4_eq (a : Nat) (ha : a < 256) : R4 a = ((a / 16 : Nat) : Int) := of_decide_eq_true (all256 (P := fun a => decide (R4 a = ((a / 16 : Nat) : Int))) (by kernel_rfl) a ha)
set_option maxHeartbeats 4000000 in
set_option maxRecDepth 100000 in
theorem f55_80 {m : Nat} {h : AH} {bs p : Nat} {data : AV} {W : List Nat} (hm : 20000 ≤ m) (hb : Bits h bs data p 0) (hd : Sl .u8 5 h data W) (hne : idOf data ≠ bs) (hW : W.length < 5000) (hp : p + 0 < W.length) (hlt : ∀ x ∈ W, x < 256) :
    Runs (fun k => cl Tryz.prog (exec Tryz.prog m) false 55 (.c (.p bs 0) (.c (.i .i64 8) .e)) h k ⟨⟩) fun v h' => v = .tu (.c (.i .i64 ((W.getD p 0 : Nat) : Int)) (.c .ni .e)) ∧ Bits h' bs data (p + 1) 0 ∧ Read h h' bs := by
  obtain ⟨m, rfl⟩ : ∃ n, m = n + 100 := ⟨m - 100, by omega⟩
  refine Runs.of_eq (fun k => cl_in Tryz.func55 rfl (by kernel_rfl) Tryz.ntmps55 Tryz.results55 rfl rfl _ _ _ _ _ _) ?_
  have hx := mem_lt (by omega) hlt p
  have hy := mem_lt (by omega) hlt (p + 1)
  have hd' : Sl .u8 5 ⟨h.objs, h.next⟩ data W := hd
  obtain ⟨c, g, g0, g1, g2⟩ := id hb
  have hz : ¬ ((8 * (W.length - p) - 0 : Nat) : Int) < 8 := by omega
  have hs := sto_of g
  simp -dsimp (disch := omega) only [go_sem, ↓reduceIte, Nat.reduceAdd, Nat.reduceSub, Nat.reduceMul, Nat.reduceLeDiff, Nat.reduceLT, Nat.reduceEqDiff, Nat.reduceBEq, Int.reduceEq, Int.reduceLT, Int.reduceLE, Int.reduceNeg, Int.reduceAdd, Int.reduceSub, Int.reduceMul, beq_self_eq_true, f33 hb hd hW (by omega) (by omega) (by omega), hz, hb.ld0, hb.ld1, hb.ld2, hd.ix, hd.ld, hs, gt_of g0, gt_of g1, gt_of g2]
  refine Runs.draw (by rfl) (by rfl) (by kernel_rfl) ?_
  simp -dsimp (disch := omega) only [go_sem, ↓reduceIte, Nat.reduceAdd, Nat.reduceSub, Nat.reduceMul, Nat.reduceLeDiff, Nat.reduceLT, Nat.reduceEqDiff, Nat.reduceBEq, Int.reduceEq, Int.reduceLT, Int.reduceLE, Int.reduceNeg, Int.reduceAdd, Int.reduceSub, Int.reduceMul, beq_self_eq_true, f33 hb hd hW (by omega) (by omega) (by omega), hz, hb.ld0, hb.ld1, hb.ld2, hd.ix, hd.ld, hd'.ld, hs, gt_of g0, gt_of g1, gt_of g2]
  refine Runs.ret ⟨congrArg (fun z : Int => AV.tu (.c (.i .i64 z) (.c .ni .e))) (E80_eq _ hx), ⟨_, by simp only [get_put, if_true] <;> rfl, ?_, ?_, ?_⟩, rfl, fun j hj => ?_⟩
  · simp only [get_put, ↓reduceIte, Nat.reduceEqDiff] <;> first | exact g0 | rfl
  · simp only [get_put, ↓reduceIte, Nat.reduceEqDiff] <;> first | exact g1 | rfl
  · simp only [get_put, ↓reduceIte, Nat.reduceEqDiff] <;> first | exact g2 | rfl
  · simp only [get_put]
    repeat rw [if_neg hj]
set_option maxHeartbeats 4000000 in
set_option maxRecDepth 100000 in
theorem f55_60 {m : Nat} {h : AH} {bs p : Nat} {data : AV} {W : List Nat} (hm : 20000 ≤ m) (hb : Bits h bs data p 0) (hd : Sl .u8 5 h data W) (hne : idOf data ≠ bs) (hW : W.length < 5000) (hp : p + 0 < W.length) (hlt : ∀ x ∈ W, x < 256) :
    Runs (fun k => cl Tryz.prog (exec Tryz.prog m) false 55 (.c (.p bs 0) (.c (.i .i64 6) .e)) h k ⟨⟩) fun v h' => v = .tu (.c (.i .i64 ((W.getD p 0 / 4 : Nat) : Int)) (.c .ni .e)) ∧ Bits h' bs data (p) 6 ∧ Read h h' bs := by
  obtain ⟨m, rfl⟩ : ∃ n, m = n + 100 := ⟨m - 100, by omega⟩
  refine Runs.of_eq (fun k => cl_in Tryz.func55 rfl (by kernel_rfl) Tryz.ntmps55 Tryz.results55 rfl rfl _ _ _ _ _ _) ?_
  have hx := mem_lt (by omega) hlt p
  have hy := mem_lt (by omega) hlt (p + 1)
  have hd' : Sl .u8 5 ⟨h.objs, h.next⟩ data W := hd
  obtain ⟨c, g, g0, g1, g2⟩ := id hb
  have hz : ¬ ((8 * (W.length - p) - 0 : Nat) : Int) < 6 := by omega
  have hs := sto_of g
  simp -dsimp (disch := omega) only [go_sem, ↓reduceIte, Nat.reduceAdd, Nat.reduceSub, Nat.reduceMul, Nat.reduceLeDiff, Nat.reduceLT, Nat.reduceEqDiff, Nat.reduceBEq, Int.reduceEq, Int.reduceLT, Int.reduceLE, Int.reduceNeg, Int.reduceAdd, Int.reduceSub, Int.reduceMul, beq_self_eq_true, f33 hb hd hW (by omega) (by omega) (by omega), hz, hb.ld0, hb.ld1, hb.ld2, hd.ix, hd.ld, hs, gt_of g0, gt_of g1, gt_of g2]
  refine Runs.draw (by rfl) (by rfl) (by kernel_rfl) ?_
  simp -dsimp (disch := omega) only [go_sem, ↓reduceIte, Nat.reduceAdd, Nat.reduceSub, Nat.reduceMul, Nat.reduceLeDiff, Nat.reduceLT, Nat.reduceEqDiff, Nat.reduceBEq, Int.reduceEq, Int.reduceLT, Int.reduceLE, Int.reduceNeg, Int.reduceAdd, Int.reduceSub, Int.reduceMul, beq_self_eq_true, f33 hb hd hW (by omega) (by omega) (by omega), hz, hb.ld0, hb.ld1, hb.ld2, hd.ix, hd.ld, hd'.ld, hs, gt_of g0, gt_of g1, gt_of g2]
  refine Runs.ret ⟨congrArg (fun z : Int => AV.tu (.c (.i .i64 z) (.c .ni .e))) (E60_eq _ hx), ⟨_, by simp only [get_put, if_true] <;> rfl, ?_, ?_, ?_⟩, rfl, fun j hj => ?_⟩
  · simp only [get_put, ↓reduceIte, Nat.reduceEqDiff] <;> first | exact g0 | rfl
  · simp only [get_put, ↓reduceIte, Nat.reduceEqDiff] <;> first | exact g1 | rfl
  · simp only [get_put, ↓reduceIte, Nat.reduceEqDiff] <;> first | exact g2 | rfl
  · simp only [get_put]
    repeat rw [if_neg hj]
set_option maxHeartbeats 4000000 in
set_option maxRecDepth 100000 in
theorem f55_62 {m : Nat} {h : AH} {bs p : Nat} {data : AV} {W : List Nat} (hm : 20000 ≤ m) (hb : Bits h bs data p 2) (hd : Sl .u8 5 h data W) (hne : idOf data ≠ bs) (hW : W.length < 5000) (hp : p + 0 < W.length) (hlt : ∀ x ∈ W, x < 256) :
    Runs (fun k => cl Tryz.prog (exec Tryz.prog m) false 55 (.c (.p bs 0) (.c (.i .i64 6) .e)) h k ⟨⟩) fun v h' => v = .tu (.c (.i .i64 ((W.getD p 0 % 64 : Nat) : Int)) (.c .ni .e)) ∧ Bits h' bs data (p + 1) 0 ∧ Read h h' bs := by
  obtain ⟨m, rfl⟩ : ∃ n, m = n + 100 := ⟨m - 100, by omega⟩
  refine Runs.of_eq (fun k => cl_in Tryz.func55 rfl (by kernel_rfl) Tryz.ntmps55 Tryz.results55 rfl rfl _ _ _ _ _ _) ?_
  have hx := mem_lt (by omega) hlt p
  have hy := mem_lt (by omega) hlt (p + 1)
  have hd' : Sl .u8 5 ⟨h.objs, h.next⟩ data W := hd
  obtain ⟨c, g, g0, g1, g2⟩ := id hb
  have hz : ¬ ((8 * (W.length - p) - 2 : Nat) : Int) < 6 := by omega
  have hs := sto_of g
  simp -dsimp (disch := omega) only [go_sem, ↓reduceIte, Nat.reduceAdd, Nat.reduceSub, Nat.reduceMul, Nat.reduceLeDiff, Nat.reduceLT, Nat.reduceEqDiff, Nat.reduceBEq, Int.reduceEq, Int.reduceLT, Int.reduceLE, Int.reduceNeg, Int.reduceAdd, Int.reduceSub, Int.reduceMul, beq_self_eq_true, f33 hb hd hW (by omega) (by omega) (by omega), hz, hb.ld0, hb.ld1, hb.ld2, hd.ix, hd.ld, hs, gt_of g0, gt_of g1, gt_of g2]
  refine Runs.draw (by rfl) (by rfl) (by kernel_rfl) ?_
  simp -dsimp (disch := omega) only [go_sem, ↓reduceIte, Nat.reduceAdd, Nat.reduceSub, Nat.reduceMul, Nat.reduceLeDiff, Nat.reduceLT, Nat.reduceEqDiff, Nat.reduceBEq, Int.reduceEq, Int.reduceLT, Int.reduceLE, Int.reduceNeg, Int.reduceAdd, Int.reduceSub, Int.reduceMul, beq_self_eq_true, f33 hb hd hW (by omega) (by omega) (by omega), hz, hb.ld0, hb.ld1, hb.ld2, hd.ix, hd.ld, hd'.ld, hs, gt_of g0, gt_of g1, gt_of g2]
  refine Runs.ret ⟨congrArg (fun z : Int => AV.tu (.c (.i .i64 z) (.c .ni .e))) (L2_eq _ hx), ⟨_, by simp only [get_put, if_true] <;> rfl, ?_, ?_, ?_⟩, rfl, fun j hj => ?_⟩
  · simp only [get_put, ↓reduceIte, Nat.reduceEqDiff] <;> first | exact g0 | rfl
  · simp only [get_put, ↓reduceIte, Nat.reduceEqDiff] <;> first | exact g1 | rfl
  · simp only [get_put, ↓reduceIte, Nat.reduceEqDiff] <;> first | exact g2 | rfl
  · simp only [get_put]
    repeat rw [if_neg hj]
set_option maxHeartbeats 4000000 in
set_option maxRecDepth 100000 in
theorem f55_64 {m : Nat} {h : AH} {bs p : Nat} {data : AV} {W : List Nat} (hm : 20000 ≤ m) (hb : Bits h bs data p 4) (hd : Sl .u8 5 h data W) (hne : idOf data ≠ bs) (hW : W.length < 5000) (hp : p + 1 < W.length) (hlt : ∀ x ∈ W, x < 256) :
    Runs (fun k => cl Tryz.prog (exec Tryz.prog m) false 55 (.c (.p bs 0) (.c (.i .i64 6) .e)) h k ⟨⟩) fun v h' => v = .tu (.c (.i .i64 ((W.getD p 0 % 16 * 4 + W.getD (p + 1) 0 / 64 : Nat) : Int)) (.c .ni .e)) ∧ Bits h' bs data (p + 1) 2 ∧ Read h h' bs := by
  obtain ⟨m, rfl⟩ : ∃ n, m = n + 100 := ⟨m - 100, by omega⟩
  refine Runs.of_eq (fun k => cl_in Tryz.func55 rfl (by kernel_rfl) Tryz.ntmps55 Tryz.results55 rfl rfl _ _ _ _ _ _) ?_
  have hx := mem_lt (by omega) hlt p
  have hy := mem_lt (by omega) hlt (p + 1)
  have hd' : Sl .u8 5 ⟨h.objs, h.next⟩ data W := hd
  obtain ⟨c, g, g0, g1, g2⟩ := id hb
  have hz : ¬ ((8 * (W.length - p) - 4 : Nat) : Int) < 6 := by omega
  have hs := sto_of g
  simp -dsimp (disch := omega) only [go_sem, ↓reduceIte, Nat.reduceAdd, Nat.reduceSub, Nat.reduceMul, Nat.reduceLeDiff, Nat.reduceLT, Nat.reduceEqDiff, Nat.reduceBEq, Int.reduceEq, Int.reduceLT, Int.reduceLE, Int.reduceNeg, Int.reduceAdd, Int.reduceSub, Int.reduceMul, beq_self_eq_true, f33 hb hd hW (by omega) (by omega) (by omega), hz, hb.ld0, hb.ld1, hb.ld2, hd.ix, hd.ld, hs, gt_of g0, gt_of g1, gt_of g2]
  refine Runs.draw (by rfl) (by rfl) (by kernel_rfl) ?_
  simp -dsimp (disch := omega) only [go_sem, ↓reduceIte, Nat.reduceAdd, Nat.reduceSub, Nat.reduceMul, Nat.reduceLeDiff, Nat.reduceLT, Nat.reduceEqDiff, Nat.reduceBEq, Int.reduceEq, Int.reduceLT, Int.reduceLE, Int.reduceNeg, Int.reduceAdd, Int.reduceSub, Int.reduceMul, beq_self_eq_true, f33 hb hd hW (by omega) (by omega) (by omega), hz, hb.ld0, hb.ld1, hb.ld2, hd.ix, hd.ld, hd'.ld, hs, gt_of g0, gt_of g1, gt_of g2]
  refine Runs.draw (by rfl) (by rfl) (by kernel_rfl) ?_
  simp -dsimp (disch := omega) only [go_sem, ↓reduceIte, Nat.reduceAdd, Nat.reduceSub, Nat.reduceMul, Nat.reduceLeDiff, Nat.reduceLT, Nat.reduceEqDiff, Nat.reduceBEq, Int.reduceEq, Int.reduceLT, Int.reduceLE, Int.reduceNeg, Int.reduceAdd, Int.reduceSub, Int.reduceMul, beq_self_eq_true, hd.ix, hd.ld, hd'.ld, hs, gt_of g0, gt_of g1, gt_of g2]
  refine Runs.ret ⟨congrArg (fun z : Int => AV.tu (.c (.i .i64 z) (.c .ni .e))) ((congr (congrArg (C2 2) (L4_eq _ hx)) (R6_eq _ hy)).trans (c2_2 _ _ (by omega) (by omega))), ⟨_, by simp only [get_put, if_true] <;> rfl, ?_, ?_, ?_⟩, rfl, fun j hj => ?_⟩
  · simp only [get_put, ↓reduceIte, Nat.reduceEqDiff] <;> first | exact g0 | rfl
  · simp only [get_put, ↓reduceIte, Nat.reduceEqDiff] <;> first | exact g1 | rfl
  · simp only [get_put, ↓reduceIte, Nat.reduceEqDiff] <;> first | exact g2 | rfl
  · simp only [get_put]
    repeat rw [if_neg hj]
set_option maxHeartbeats 4000000 in
set_option maxRecDepth 100000 in
theorem f55_66 {m : Nat} {h : AH} {bs p : Nat} {data : AV} {W : List Nat} (hm : 20000 ≤ m) (hb : Bits h bs data p 6) (hd : Sl .u8 5 h data W) (hne : idOf data ≠ bs) (hW : W.length < 5000) (hp : p + 1 < W.length) (hlt : ∀ x ∈ W, x < 256) :
    Runs (fun k => cl Tryz.prog (exec Tryz.prog m) false 55 (.c (.p bs 0) (.c (.i .i64 6) .e)) h k ⟨⟩) fun v h' => v = .tu (.c (.i .i64 ((W.getD p 0 % 4 * 16 + W.getD (p + 1) 0 / 16 : Nat) : Int)) (.c .ni .e)) ∧ Bits h' bs data (p + 1) 4 ∧ Read h h' bs := by
  obtain ⟨m, rfl⟩ : ∃ n, m = n + 100 := ⟨m - 100, by omega⟩
  refine Runs.of_eq (fun k => cl_in Tryz.func55 rfl (by kernel_rfl) Tryz.ntmps55 Tryz.results55 rfl rfl _ _ _ _ _ _) ?_
  have hx := mem_lt (by omega) hlt p
  have hy := mem_lt (by omega) hlt (p + 1)
  have hd' : Sl .u8 5 ⟨h.objs, h.next⟩ data W := hd
  obtain ⟨c, g, g0, g1, g2⟩ := id hb
  have hz : ¬ ((8 * (W.length - p) - 6 : Nat) : Int) < 6 := by omega
  have hs := sto_of g
  simp -dsimp (disch := omega) only [go_sem, ↓reduceIte, Nat.reduceAdd, Nat.reduceSub, Nat.reduceMul, Nat.reduceLeDiff, Nat.reduceLT, Nat.reduceEqDiff, Nat.reduceBEq, Int.reduceEq, Int.reduceLT, Int.reduceLE, Int.reduceNeg, Int.reduceAdd, Int.reduceSub, Int.reduceMul, beq_self_eq_true, f33 hb hd hW (by omega) (by omega) (by omega), hz, hb.ld0, hb.ld1, hb.ld2, hd.ix, hd.ld, hs, gt_of g0, gt_of g1, gt_of g2]
  refine Runs.draw (by rfl) (by rfl) (by kernel_rfl) ?_
  simp -dsimp (disch := omega) only [go_sem, ↓reduceIte, Nat.reduceAdd, Nat.reduceSub, Nat.reduceMul, Nat.reduceLeDiff, Nat.reduceLT, Nat.reduceEqDiff, Nat.reduceBEq, Int.reduceEq, Int.reduceLT, Int.reduceLE, Int.reduceNeg, Int.reduceAdd, Int.reduceSub, Int.reduceMul, beq_self_eq_true, f33 hb hd hW (by omega) (by omega) (by omega), hz, hb.ld0, hb.ld1, hb.ld2, hd.ix, hd.ld, hd'.ld, hs, gt_of g0, gt_of g1, gt_of g2]
  refine Runs.draw (by rfl) (by rfl) (by kernel_rfl) ?_
  simp -dsimp (disch := omega) only [go_sem, ↓reduceIte, Nat.reduceAdd, Nat.reduceSub, Nat.reduceMul, Nat.reduceLeDiff, Nat.reduceLT, Nat.reduceEqDiff, Nat.reduceBEq, Int.reduceEq, Int.reduceLT, Int.reduceLE, Int.reduceNeg, Int.reduceAdd, Int.reduceSub, Int.reduceMul, beq_self_eq_true, hd.ix, hd.ld, hd'.ld, hs, gt_of g0, gt_of g1, gt_of g2]
  refine Runs.ret ⟨congrArg (fun z : Int => AV.tu (.c (.i .i64 z) (.c .ni .e))) ((congr (congrArg (C2 4) (L6_eq _ hx)) (R4_eq _ hy)).trans (c2_4 _ _ (by omega) (by omega))), ⟨_, by simp only [get_put, if_true] <;> rfl, ?_, ?_, ?_⟩, rfl, fun j hj => ?_⟩
  · simp only [get_put, ↓reduceIte, Nat.reduceEqDiff] <;> first | exact g0 | rfl
  · simp only [get_put, ↓reduceIte, Nat.reduceEqDiff] <;> first | exact g1 | rfl
  · simp only [get_put, ↓reduceIte, Nat.reduceEqDiff] <;> first | exact g2 | rfl
  · simp only [get_put]
    repeat rw [if_neg hj]
set_option maxHeartbeats 4000000 in
set_option maxRecDepth 100000 in
theorem f55_26 {m : Nat} {h : AH} {bs p : Nat} {data : AV} {W : List Nat} (hm : 20000 ≤ m) (hb : Bits h bs data p 6) (hd : Sl .u8 5 h data W) (hne : idOf data ≠ bs) (hW : W.length < 5000) (hp : p + 0 < W.length) (hlt : ∀ x ∈ W, x < 256) :
    Runs (fun k => cl Tryz.prog (exec Tryz.prog m) false 55 (.c (.p bs 0) (.c (.i .i64 2) .e)) h k ⟨⟩) fun v h' => v = .tu (.c (.i .i64 ((W.getD p 0 % 4 : Nat) : Int)) (.c .ni .e)) ∧ Bits h' bs data (p + 1) 0 ∧ Read h h' bs := by
  obtain ⟨m, rfl⟩ : ∃ n, m = n + 100 := ⟨m - 100, by omega⟩
  refine Runs.of_eq (fun k => cl_in Tryz.func55 rfl (by kernel_rfl) Tryz.ntmps55 Tryz.results55 rfl rfl _ _ _ _ _ _) ?_
  have hx := mem_lt (by omega) hlt p
  have hy := mem_lt (by omega) hlt (p + 1)
  have hd' : Sl .u8 5 ⟨h.objs, h.next⟩ data W := hd
  obtain ⟨c, g, g0, g1, g2⟩ := id hb
  have hz : ¬ ((8 * (W.length - p) - 6 : Nat) : Int) < 2 := by omega
  have hs := sto_of g
  simp -dsimp (disch := omega) only [go_sem, ↓reduceIte, Nat.reduceAdd, Nat.reduceSub, Nat.reduceMul, Nat.reduceLeDiff, Nat.reduceLT, Nat.reduceEqDiff, Nat.reduceBEq, Int.reduceEq, Int.reduceLT, Int.reduceLE, Int.reduceNeg, Int.reduceAdd, Int.reduceSub, Int.reduceMul, beq_self_eq_true, f33 hb hd hW (by omega) (by omega) (by omega), hz, hb.ld0, hb.ld1, hb.ld2, hd.ix, hd.ld, hs, gt_of g0, gt_of g1, gt_of g2]
  refine Runs.draw (by rfl) (by rfl) (by kernel_rfl) ?_
  simp -dsimp (disch := omega) only [go_sem, ↓reduceIte, Nat.reduceAdd, Nat.reduceSub, Nat.reduceMul, Nat.reduceLeDiff, Nat.reduceLT, Nat.reduceEqDiff, Nat.reduceBEq, Int.reduceEq, Int.reduceLT, Int.reduceLE, Int.reduceNeg, Int.reduceAdd, Int.reduceSub, Int.reduceMul, beq_self_eq_true, f33 hb hd hW (by omega) (by omega) (by omega), hz, hb.ld0, hb.ld1, hb.ld2, hd.ix, hd.ld, hd'.ld, hs, gt_of g0, gt_of g1, gt_of g2]
  refine Runs.ret ⟨congrArg (fun z : Int => AV.tu (.c (.i .i64 z) (.c .ni .e))) (L6_eq _ hx), ⟨_, by simp only [get_put, if_true] <;> rfl, ?_, ?_, ?_⟩, rfl, fun j hj => ?_⟩
  · simp only [get_put, ↓reduceIte, Nat.reduceEqDiff] <;> first | exact g0 | rfl
  · simp only [get_put, ↓reduceIte, Nat.reduceEqDiff] <;> first | exact g1 | rfl
  · simp only [get_put, ↓reduceIte, Nat.reduceEqDiff] <;> first | exact g2 | rfl
  · simp only [get_put]
    repeat rw [if_neg hj]
set_option maxHeartbeats 4000000 in
set_option maxRecDepth 100000 in
theorem f55_44 {m : Nat} {h : AH} {bs p : Nat} {data : AV} {W : List Nat} (hm : 20000 ≤ m) (hb : Bits h bs data p 4) (hd : Sl .u8 5 h data W) (hne : idOf data ≠ bs) (hW : W.length < 5000) (hp : p + 0 < W.length) (hlt : ∀ x ∈ W, x < 256) :
    Runs (fun k => cl Tryz.prog (exec Tryz.prog m) false 55 (.c (.p bs 0) (.c (.i .i64 4) .e)) h k ⟨⟩) fun v h' => v = .tu (.c (.i .i64 ((W.getD p 0 % 16 : Nat) : Int)) (.c .ni .e)) ∧ Bits h' bs data (p + 1) 0 ∧ Read h h' bs := by
  obtain ⟨m, rfl⟩ : ∃ n, m = n + 100 := ⟨m - 100, by omega⟩
  refine Runs.of_eq (fun k => cl_in Tryz.func55 rfl (by kernel_rfl) Tryz.ntmps55 Tryz.results55 rfl rfl _ _ _ _ _ _) ?_
  have hx := mem_lt (by omega) hlt p
  have hy := mem_lt (by omega) hlt (p + 1)
  have hd' : Sl .u8 5 ⟨h.objs, h.next⟩ data W := hd
  obtain ⟨c, g, g0, g1, g2⟩ := id hb
  have hz : ¬ ((8 * (W.length - p) - 4 : Nat) : Int) < 4 := by omega
  have hs := sto_of g
  simp -dsimp (disch := omega) only [go_sem, ↓reduceIte, Nat.reduceAdd, Nat.reduceSub, Nat.reduceMul, Nat.reduceLeDiff, Nat.reduceLT, Nat.reduceEqDiff, Nat.reduceBEq, Int.reduceEq, Int.reduceLT, Int.reduceLE, Int.reduceNeg, Int.reduceAdd, Int.reduceSub, Int.reduceMul, beq_self_eq_true, f33 hb hd hW (by omega) (by omega) (by omega), hz, hb.ld0, hb.ld1, hb.ld2, hd.ix, hd.ld, hs, gt_of g0, gt_of g1, gt_of g2]
  refine Runs.draw (by rfl) (by rfl) (by kernel_rfl) ?_
  simp -dsimp (disch := omega) only [go_sem, ↓reduceIte, Nat.reduceAdd, Nat.reduceSub, Nat.reduceMul, Nat.reduceLeDiff, Nat.reduceLT, Nat.reduceEqDiff, Nat.reduceBEq, Int.reduceEq, Int.reduceLT, Int.reduceLE, Int.reduceNeg, Int.reduceAdd, Int.reduceSub, Int.reduceMul, beq_self_eq_true, f33 hb hd hW (by omega) (by omega) (by omega), hz, hb.ld0, hb.ld1, hb.ld2, hd.ix, hd.ld, hd'.ld, hs, gt_of g0, gt_of g1, gt_of g2]
  refine Runs.ret ⟨congrArg (fun z : Int => AV.tu (.c (.i .i64 z) (.c .ni .e))) (L4_eq _ hx), ⟨_, by simp only [get_put, if_true] <;> rfl, ?_, ?_, ?_⟩, rfl, fun j hj => ?_⟩
  · simp only [get_put, ↓reduceIte, Nat.reduceEqDiff] <;> first | exact g0 | rfl
  · simp only [get_put, ↓reduceIte, Nat.reduceEqDiff] <;> first | exact g1 | rfl
  · simp only [get_put, ↓reduceIte, Nat.reduceEqDiff] <;> first | exact g2 | rfl
  · simp only [get_put]
    repeat rw [if_neg hj]
end Go.Proofs.YtcnallabiffemaaGreatDoor.Vm
