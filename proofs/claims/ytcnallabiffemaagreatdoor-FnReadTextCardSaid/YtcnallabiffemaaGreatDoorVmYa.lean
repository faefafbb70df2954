/- The source of bits: its state, what is left, its places. Run with letters. Conditions: fewer than 5000 octets. -/
import Derived.Test.YtcnallabiffemaaGreatDoorVmXl
set_option linter.unusedSimpArgs false
set_option linter.unusedVariables false
namespace Go.Proofs.YtcnallabiffemaaGreatDoor.Vm
open Go
/-- The source of bits at a block: the octets, the place of the octet, and of the bit. -/
def Bits (h : AH) (bs : Nat) (data : AV) (p o : Nat) : Prop := ∃ c, T.get h.objs bs = some (.cells 108 3 c) ∧ T.get c 0 = some data ∧ T.get c 1 = some (.i .i64 (p : Int)) ∧ T.get c 2 = some (.i .i64 (o : Int))
section
variable {h : AH} {bs : Nat} {data : AV} {p o : Nat} (hb : Bits h bs data p o) (k : AV → R) (w : Tok k)
include hb
theorem Bits.ld0 : ld h (.p bs 0) k w = k data := by
  obtain ⟨c, h1, h2, h3, h4⟩ := hb
  exact ld_p k h bs 0 w _ h1 _ (by rw [at_cells, if_pos (by omega), h2])
theorem Bits.ld1 : ld h (.p bs 1) k w = k (.i .i64 (p : Int)) := by
  obtain ⟨c, h1, h2, h3, h4⟩ := hb
  exact ld_p k h bs 1 w _ h1 _ (by rw [at_cells, if_pos (by omega), h3])
theorem Bits.ld2 : ld h (.p bs 2) k w = k (.i .i64 (o : Int)) := by
  obtain ⟨c, h1, h2, h3, h4⟩ := hb
  exact ld_p k h bs 2 w _ h1 _ (by rw [at_cells, if_pos (by omega), h4])
end
theorem Bits.keep {h h' : AH} {bs : Nat} {data : AV} {p o : Nat} (hb : Bits h bs data p o) (e : T.get h'.objs bs = T.get h.objs bs) : Bits h' bs data p o := by
  unfold Bits
  rw [e]
  exact hb
set_option maxHeartbeats 4000000 in
set_option maxRecDepth 100000 in
theorem f33r {m : Nat} {q : Bool} {h : AH} {bs p o : Nat} {data : AV} {W : List Nat} (hm : 10000 ≤ m) (hb : Bits h bs data p o) (hd : Sl .u8 5 h data W) (hW : W.length < 5000) (hp : p ≤ W.length) (ho : o < 8) (hpo : p = W.length → o = 0) :
    Runs (fun k => cl Tryz.prog (exec Tryz.prog m) q 33 (.c (.p bs 0) .e) h k ⟨⟩) fun v h' => v = .i .i64 ((8 * (W.length - p) - o : Nat) : Int) ∧ h' = h := by
  obtain ⟨m, rfl⟩ : ∃ n, m = n + 100 := ⟨m - 100, by omega⟩
  refine Runs.of_eq (fun k => cl_in Tryz.func33 rfl (by kernel_rfl) Tryz.ntmps33 Tryz.results33 rfl rfl _ _ _ _ _ _) ?_
  cases q
  · simp -dsimp (disch := omega) only [go_sem, ↓reduceIte, Nat.reduceAdd, Nat.reduceSub, Nat.reduceMul, Nat.reduceLeDiff, Nat.reduceLT, Nat.reduceEqDiff, Nat.reduceBEq, Int.reduceEq, Int.reduceLT, Int.reduceLE, Int.reduceNeg, Int.reduceAdd, Int.reduceSub, Int.reduceMul, beq_self_eq_true]
    refine Runs.draw (by rfl) (by rfl) (by kernel_rfl) ?_
    simp -dsimp (disch := omega) only [go_sem, ↓reduceIte, Nat.reduceAdd, Nat.reduceSub, Nat.reduceMul, Nat.reduceLeDiff, Nat.reduceLT, Nat.reduceEqDiff, Nat.reduceBEq, Int.reduceEq, Int.reduceLT, Int.reduceLE, Int.reduceNeg, Int.reduceAdd, Int.reduceSub, Int.reduceMul, beq_self_eq_true, hb.ld0, hb.ld1, hb.ld2, hd.ln42]
    exact Runs.ret ⟨rfl, rfl⟩
  · simp -dsimp (disch := omega) only [go_sem, ↓reduceIte, Nat.reduceAdd, Nat.reduceSub, Nat.reduceMul, Nat.reduceLeDiff, Nat.reduceLT, Nat.reduceEqDiff, Nat.reduceBEq, Int.reduceEq, Int.reduceLT, Int.reduceLE, Int.reduceNeg, Int.reduceAdd, Int.reduceSub, Int.reduceMul, beq_self_eq_true]
    refine Runs.draw (by rfl) (by rfl) (by kernel_rfl) ?_
    simp -dsimp (disch := omega) only [go_sem, ↓reduceIte, Nat.reduceAdd, Nat.reduceSub, Nat.reduceMul, Nat.reduceLeDiff, Nat.reduceLT, Nat.reduceEqDiff, Nat.reduceBEq, Int.reduceEq, Int.reduceLT, Int.reduceLE, Int.reduceNeg, Int.reduceAdd, Int.reduceSub, Int.reduceMul, beq_self_eq_true, hb.ld0, hb.ld1, hb.ld2, hd.ln42]
    exact Runs.ret ⟨rfl, rfl⟩
theorem f33 {h : AH} {bs p o : Nat} {data : AV} {W : List Nat} (hb : Bits h bs data p o) (hd : Sl .u8 5 h data W) (hW : W.length < 5000) (hp : p ≤ W.length) (ho : o < 8) (hpo : p = W.length → o = 0) (m : Nat) (hm : 10000 ≤ m) (q : Bool) (k : AV → AH → R) (w : Tok k) :
    cl Tryz.prog (exec Tryz.prog m) q 33 (.c (.p bs 0) .e) h k w = k (.i .i64 ((8 * (W.length - p) - o : Nat) : Int)) h := Runs.eq (f33r hm hb hd hW hp ho hpo) k w
set_option maxHeartbeats 4000000 in
set_option maxRecDepth 100000 in
theorem f63r {m : Nat} {q : Bool} {h : AH} {bs p o : Nat} {data : AV} (hm : 10000 ≤ m) (hb : Bits h bs data p o) :
    Runs (fun k => cl Tryz.prog (exec Tryz.prog m) q 63 (.c (.p bs 0) .e) h k ⟨⟩) fun v h' => v = .i .i64 (o : Int) ∧ h' = h := by
  obtain ⟨m, rfl⟩ : ∃ n, m = n + 100 := ⟨m - 100, by omega⟩
  refine Runs.of_eq (fun k => cl_in Tryz.func63 rfl (by kernel_rfl) Tryz.ntmps63 Tryz.results63 rfl rfl _ _ _ _ _ _) ?_
  cases q
  · simp -dsimp (disch := omega) only [go_sem, ↓reduceIte, Nat.reduceAdd, Nat.reduceSub, Nat.reduceMul, Nat.reduceLeDiff, Nat.reduceLT, Nat.reduceEqDiff, Nat.reduceBEq, Int.reduceEq, Int.reduceLT, Int.reduceLE, Int.reduceNeg, Int.reduceAdd, Int.reduceSub, Int.reduceMul, beq_self_eq_true, hb.ld0, hb.ld1, hb.ld2]
    exact Runs.ret ⟨rfl, rfl⟩
  · simp -dsimp (disch := omega) only [go_sem, ↓reduceIte, Nat.reduceAdd, Nat.reduceSub, Nat.reduceMul, Nat.reduceLeDiff, Nat.reduceLT, Nat.reduceEqDiff, Nat.reduceBEq, Int.reduceEq, Int.reduceLT, Int.reduceLE, Int.reduceNeg, Int.reduceAdd, Int.reduceSub, Int.reduceMul, beq_self_eq_true, hb.ld0, hb.ld1, hb.ld2]
    exact Runs.ret ⟨rfl, rfl⟩
theorem f63 {h : AH} {bs p o : Nat} {data : AV} (hb : Bits h bs data p o) (m : Nat) (hm : 10000 ≤ m) (q : Bool) (k : AV → AH → R) (w : Tok k) : cl Tryz.prog (exec Tryz.prog m) q 63 (.c (.p bs 0) .e) h k w = k (.i .i64 (o : Int)) h := Runs.eq (f63r hm hb) k w
set_option maxHeartbeats 4000000 in
set_option maxRecDepth 100000 in
theorem f64r {m : Nat} {q : Bool} {h : AH} {bs p o : Nat} {data : AV} (hm : 10000 ≤ m) (hb : Bits h bs data p o) :
    Runs (fun k => cl Tryz.prog (exec Tryz.prog m) q 64 (.c (.p bs 0) .e) h k ⟨⟩) fun v h' => v = .i .i64 (p : Int) ∧ h' = h := by
  obtain ⟨m, rfl⟩ : ∃ n, m = n + 100 := ⟨m - 100, by omega⟩
  refine Runs.of_eq (fun k => cl_in Tryz.func64 rfl (by kernel_rfl) Tryz.ntmps64 Tryz.results64 rfl rfl _ _ _ _ _ _) ?_
  cases q
  · simp -dsimp (disch := omega) only [go_sem, ↓reduceIte, Nat.reduceAdd, Nat.reduceSub, Nat.reduceMul, Nat.reduceLeDiff, Nat.reduceLT, Nat.reduceEqDiff, Nat.reduceBEq, Int.reduceEq, Int.reduceLT, Int.reduceLE, Int.reduceNeg, Int.reduceAdd, Int.reduceSub, Int.reduceMul, beq_self_eq_true, hb.ld0, hb.ld1, hb.ld2]
    exact Runs.ret ⟨rfl, rfl⟩
  · simp -dsimp (disch := omega) only [go_sem, ↓reduceIte, Nat.reduceAdd, Nat.reduceSub, Nat.reduceMul, Nat.reduceLeDiff, Nat.reduceLT, Nat.reduceEqDiff, Nat.reduceBEq, Int.reduceEq, Int.reduceLT, Int.reduceLE, Int.reduceNeg, Int.reduceAdd, Int.reduceSub, Int.reduceMul, beq_self_eq_true, hb.ld0, hb.ld1, hb.ld2]
    exact Runs.ret ⟨rfl, rfl⟩
theorem f64 {h : AH} {bs p o : Nat} {data : AV} (hb : Bits h bs data p o) (m : Nat) (hm : 10000 ≤ m) (q : Bool) (k : AV → AH → R) (w : Tok k) : cl Tryz.prog (exec Tryz.prog m) q 64 (.c (.p bs 0) .e) h k w = k (.i .i64 (p : Int)) h := Runs.eq (f64r hm hb) k w
/-- An octet, as it was before it was randomized. -/
def unrz (x p : Nat) : Nat := if rand p 255 ≤ x then x - rand p 255 else x + 256 - rand p 255
set_option maxHeartbeats 4000000 in
set_option maxRecDepth 100000 in
theorem f65r {m : Nat} {q : Bool} {h : AH} {x p : Nat} (hm : 10000 ≤ m) (hx : x < 256) (hp : p < 100000) :
    Runs (fun k => cl Tryz.prog (exec Tryz.prog m) q 65 (.c (.i .i64 (x : Int)) (.c (.i .i64 (p : Int)) .e)) h k ⟨⟩) fun v h' => v = .i .i64 (unrz x p : Int) ∧ h' = h := by
  obtain ⟨m, rfl⟩ : ∃ n, m = n + 100 := ⟨m - 100, by omega⟩
  refine Runs.of_eq (fun k => cl_in Tryz.func65 rfl (by kernel_rfl) Tryz.ntmps65 Tryz.results65 rfl rfl _ _ _ _ _ _) ?_
  have hr := rand_le p 255 (by omega)
  have e : 149 * p % 255 + 1 = rand p 255 := rfl
  cases q
  · simp -dsimp (disch := omega) only [go_sem, ↓reduceIte, Nat.reduceAdd, Nat.reduceSub, Nat.reduceMul, Nat.reduceLeDiff, Nat.reduceLT, Nat.reduceEqDiff, Nat.reduceBEq, Int.reduceEq, Int.reduceLT, Int.reduceLE, Int.reduceNeg, Int.reduceAdd, Int.reduceSub, Int.reduceMul, beq_self_eq_true, e]
    refine Runs.brd (fun c1 => ?_) (fun c1 => ?_) <;> simp -dsimp (disch := omega) only [go_sem, ↓reduceIte, Nat.reduceAdd, Nat.reduceSub, Nat.reduceMul, Nat.reduceLeDiff, Nat.reduceLT, Nat.reduceEqDiff, Nat.reduceBEq, Int.reduceEq, Int.reduceLT, Int.reduceLE, Int.reduceNeg, Int.reduceAdd, Int.reduceSub, Int.reduceMul, beq_self_eq_true]
    · exact Runs.ret ⟨by unfold unrz; rw [if_pos (by omega)], rfl⟩
    · exact Runs.ret ⟨by unfold unrz; rw [if_neg (by omega)]; congr 1; omega, rfl⟩
  · simp -dsimp (disch := omega) only [go_sem, ↓reduceIte, Nat.reduceAdd, Nat.reduceSub, Nat.reduceMul, Nat.reduceLeDiff, Nat.reduceLT, Nat.reduceEqDiff, Nat.reduceBEq, Int.reduceEq, Int.reduceLT, Int.reduceLE, Int.reduceNeg, Int.reduceAdd, Int.reduceSub, Int.reduceMul, beq_self_eq_true, e]
    refine Runs.brd (fun c1 => ?_) (fun c1 => ?_) <;> simp -dsimp (disch := omega) only [go_sem, ↓reduceIte, Nat.reduceAdd, Nat.reduceSub, Nat.reduceMul, Nat.reduceLeDiff, Nat.reduceLT, Nat.reduceEqDiff, Nat.reduceBEq, Int.reduceEq, Int.reduceLT, Int.reduceLE, Int.reduceNeg, Int.reduceAdd, Int.reduceSub, Int.reduceMul, beq_self_eq_true]
    · exact Runs.ret ⟨by unfold unrz; rw [if_pos (by omega)], rfl⟩
    · exact Runs.ret ⟨by unfold unrz; rw [if_neg (by omega)]; congr 1; omega, rfl⟩
theorem f65 {h : AH} {x p : Nat} (hx : x < 256) (hp : p < 100000) (m : Nat) (hm : 10000 ≤ m) (q : Bool) (k : AV → AH → R) (w : Tok k) : cl Tryz.prog (exec Tryz.prog m) q 65 (.c (.i .i64 (x : Int)) (.c (.i .i64 (p : Int)) .e)) h k w = k (.i .i64 (unrz x p : Int)) h := Runs.eq (f65r hm hx hp) k w
end Go.Proofs.YtcnallabiffemaaGreatDoor.Vm
