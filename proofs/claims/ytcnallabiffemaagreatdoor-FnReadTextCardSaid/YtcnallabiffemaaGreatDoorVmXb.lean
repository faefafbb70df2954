/- Pads, and the codewords of bytes: run with letters. Conditions: fewer than 2000 characters. -/
import Derived.Test.YtcnallabiffemaaGreatDoorVmXa
set_option linter.unusedSimpArgs false
set_option linter.unusedVariables false
namespace Go.Proofs.YtcnallabiffemaaGreatDoor.Vm
open Go
def rand (p q : Nat) : Nat := 149 * p % q + 1
set_option maxHeartbeats 4000000 in
set_option maxRecDepth 100000 in
theorem f43 {m p q : Nat} {h : AH} (hm : 10000 ≤ m) (hp : p < 100000) (hq : 0 < q) (hq' : q < 100000) :
    Runs (fun k => cl Tryz.prog (exec Tryz.prog m) false 43 (.c (.i .i64 (p : Int)) (.c (.i .i64 (q : Int)) .e)) h k ⟨⟩) fun v h' => v = .i .i64 (rand p q : Int) ∧ h' = h := by
  obtain ⟨m, rfl⟩ : ∃ n, m = n + 100 := ⟨m - 100, by omega⟩
  refine Runs.of_eq (fun k => cl_in Tryz.func43 rfl (by kernel_rfl) Tryz.ntmps43 Tryz.results43 rfl rfl _ _ _ _ _ _) ?_
  have h0 : ¬ (q : Int) = 0 := by omega
  have h1 := Nat.mod_lt (149 * p) hq
  simp -dsimp (disch := omega) only [go_sem, ↓reduceIte, Nat.reduceAdd, Nat.reduceSub, Nat.reduceMul, Nat.reduceLeDiff, Nat.reduceLT, Nat.reduceEqDiff, Nat.reduceBEq, Int.reduceEq, Int.reduceLT, Int.reduceLE, Int.reduceNeg, Int.reduceAdd, Int.reduceSub, Int.reduceMul, beq_self_eq_true, h0]
  exact Runs.ret ⟨rfl, rfl⟩
theorem f43a {m p : Nat} {h : AH} (hm : 10000 ≤ m) (hp : p < 100000) (k : AV → AH → R) (w : Tok k) : cl Tryz.prog (exec Tryz.prog m) false 43 (.c (.i .i64 (p : Int)) (.c (.i .i64 253) .e)) h k w = k (.i .i64 (rand p 253 : Int)) h := Runs.eq (f43 (q := 253) hm hp (by omega) (by omega)) k w
theorem f43b {m p : Nat} {h : AH} (hm : 10000 ≤ m) (hp : p < 100000) (k : AV → AH → R) (w : Tok k) : cl Tryz.prog (exec Tryz.prog m) false 43 (.c (.i .i64 (p : Int)) (.c (.i .i64 255) .e)) h k w = k (.i .i64 (rand p 255 : Int)) h := Runs.eq (f43 (q := 255) hm hp (by omega) (by omega)) k w
def pad (p : Nat) : Nat := if 254 < 129 + rand p 253 then 129 + rand p 253 - 254 else 129 + rand p 253
theorem rand_le (p q : Nat) (hq : 0 < q) : rand p q ≤ q := by
  have h1 := Nat.mod_lt (149 * p) hq
  unfold rand; omega
set_option maxHeartbeats 4000000 in
set_option maxRecDepth 100000 in
theorem f20 {m p : Nat} {h : AH} (hm : 11000 ≤ m) (hp : p < 100000) :
    Runs (fun k => cl Tryz.prog (exec Tryz.prog m) false 20 (.c (.i .i64 (p : Int)) .e) h k ⟨⟩) fun v h' => v = .i .i64 (pad p : Int) ∧ h' = h := by
  obtain ⟨m, rfl⟩ : ∃ n, m = n + 100 := ⟨m - 100, by omega⟩
  refine Runs.of_eq (fun k => cl_in Tryz.func20 rfl (by kernel_rfl) Tryz.ntmps20 Tryz.results20 rfl rfl _ _ _ _ _ _) ?_
  have h1 := rand_le p 253 (by omega)
  simp -dsimp (disch := omega) only [go_sem, ↓reduceIte, Nat.reduceAdd, Nat.reduceSub, Nat.reduceMul, Nat.reduceLeDiff, Nat.reduceLT, Nat.reduceEqDiff, Nat.reduceBEq, Int.reduceEq, Int.reduceLT, Int.reduceLE, Int.reduceNeg, Int.reduceAdd, Int.reduceSub, Int.reduceMul, beq_self_eq_true, f43a]
  refine Runs.brd (fun c1 => ?_) (fun c1 => ?_) <;> simp -dsimp (disch := omega) only [go_sem, ↓reduceIte, Nat.reduceAdd, Nat.reduceSub, Nat.reduceMul, Nat.reduceLeDiff, Nat.reduceLT, Nat.reduceEqDiff, Nat.reduceBEq, Int.reduceEq, Int.reduceLT, Int.reduceLE, Int.reduceNeg, Int.reduceAdd, Int.reduceSub, Int.reduceMul, beq_self_eq_true, c1]
  · exact Runs.ret ⟨by unfold pad; rw [if_pos (by omega)], rfl⟩
  · exact Runs.ret ⟨by unfold pad; rw [if_neg (by omega)], rfl⟩
/-- Bytes behind a place, randomized. -/
def rz : Nat → List Nat → List Nat
  | _, [] => []
  | b, x :: l => (x + rand b 255) % 256 :: rz (b + 1) l
def hdr (n : Nat) : List Nat := if 250 ≤ n then [n / 250 + 249, n % 250] else [n]
def encB (behind : Nat) (l : List Nat) : List Nat := 231 :: rz (behind + 2) (hdr l.length ++ l)
structure InvB (s : ByteArray) (b m0 : Nat) (h0 : AH) (i : Nat) (rg : T AV) (h : AH) (p : Nat) (v : AV) (xs : List Nat) : Prop where
  pi : p + i = s.size
  r0 : T.get rg 0 = some (.s s)
  r1 : T.get rg 1 = some (.i .i64 (b : Int))
  r27 : T.get rg 27 = some (.i .i64 (p : Int))
  r26 : T.get rg 26 = some (.i .i64 (s.size : Int))
  r6 : T.get rg 6 = some v
  sl : SlN .i64 3 m0 h v xs
  same : Same m0 h0 h
  enc : xs ++ (cs s).drop p = hdr s.size ++ cs s
  len : xs.length ≤ p + 2
structure InvB2 (s : ByteArray) (l : List Nat) (u : AV) (b m0 : Nat) (h0 h1 : AH) (i : Nat) (rg : T AV) (h : AH) (p : Nat) (v : AV) (xs : List Nat) : Prop where
  pi : p + i = l.length
  r0 : T.get rg 0 = some (.s s)
  r1 : T.get rg 1 = some (.i .i64 (b : Int))
  r41 : T.get rg 41 = some (.i .i64 (p : Int))
  r40 : T.get rg 40 = some (.i .i64 (l.length : Int))
  r39 : T.get rg 39 = some u
  r8 : T.get rg 8 = some v
  sl : SlN .i64 3 m0 h v xs
  same : Same m0 h1 h
  enc : xs ++ rz (b + 2 + p) (l.drop p) = 231 :: rz (b + 2) l
  len : xs.length ≤ p + 1
set_option maxHeartbeats 4000000 in
set_option maxRecDepth 100000 in
theorem f28 {m b : Nat} {h : AH} {s : ByteArray} (hm : 30000 ≤ m) (hs : s.size < 2000) (hb : b < 10000) :
    Runs (fun k => cl Tryz.prog (exec Tryz.prog m) false 28 (.c (.s s) (.c (.i .i64 (b : Int)) .e)) h k ⟨⟩) fun v h' => ∃ w, v = .tu (.c w (.c (.i .i64 (s.size : Int)) .e)) ∧ SlN .i64 3 h.next h' w (encB b (cs s)) ∧ Same h.next h h' := by
  obtain ⟨m, rfl⟩ : ∃ n, m = n + 100 := ⟨m - 100, by omega⟩
  refine Runs.of_eq (fun k => cl_in Tryz.func28 rfl (by kernel_rfl) Tryz.ntmps28 Tryz.results28 rfl rfl _ _ _ _ _ _) ?_
  simp -dsimp (disch := omega) only [go_sem, ↓reduceIte, Nat.reduceAdd, Nat.reduceSub, Nat.reduceMul, Nat.reduceLeDiff, Nat.reduceLT, Nat.reduceEqDiff, Nat.reduceBEq, Int.reduceEq, Int.reduceLT, Int.reduceLE, Int.reduceNeg, Int.reduceAdd, Int.reduceSub, Int.reduceMul, beq_self_eq_true]
  refine Runs.joind (fun e rg h' => e = .normal ∧ ∃ v, T.get rg 0 = some (.s s) ∧ T.get rg 1 = some (.i .i64 (b : Int)) ∧ T.get rg 6 = some v ∧ SlN .i64 3 h.next h' v (hdr s.size) ∧ Same h.next h h') ?_ ?_ ?_
  · intro c1
    simp -dsimp (disch := omega) only [go_sem, ↓reduceIte, Nat.reduceAdd, Nat.reduceSub, Nat.reduceMul, Nat.reduceLeDiff, Nat.reduceLT, Nat.reduceEqDiff, Nat.reduceBEq, Int.reduceEq, Int.reduceLT, Int.reduceLE, Int.reduceNeg, Int.reduceAdd, Int.reduceSub, Int.reduceMul, beq_self_eq_true]
    refine RunsC.ret ⟨rfl, _, (by simp only [get_put, ↓reduceIte, Nat.reduceEqDiff] <;> first | assumption | rfl), (by simp only [get_put, ↓reduceIte, Nat.reduceEqDiff] <;> first | assumption | rfl), (by simp only [get_put, ↓reduceIte, Nat.reduceEqDiff] <;> first | assumption | rfl), ?_, ?_⟩
    · have e : hdr s.size = [s.size / 250 + 249, s.size % 250] := by unfold hdr; rw [if_pos (by omega)]
      rw [e]
      exact (lit2i _ _ _ _).less (Nat.le_succ _)
    · exact (Same.new _ _ _).trans ((Same.new _ _ _).less (Nat.le_succ _))
  · intro c1
    simp -dsimp (disch := omega) only [go_sem, ↓reduceIte, Nat.reduceAdd, Nat.reduceSub, Nat.reduceMul, Nat.reduceLeDiff, Nat.reduceLT, Nat.reduceEqDiff, Nat.reduceBEq, Int.reduceEq, Int.reduceLT, Int.reduceLE, Int.reduceNeg, Int.reduceAdd, Int.reduceSub, Int.reduceMul, beq_self_eq_true]
    refine RunsC.ret ⟨rfl, _, (by simp only [get_put, ↓reduceIte, Nat.reduceEqDiff] <;> first | assumption | rfl), (by simp only [get_put, ↓reduceIte, Nat.reduceEqDiff] <;> first | assumption | rfl), (by simp only [get_put, ↓reduceIte, Nat.reduceEqDiff] <;> first | assumption | rfl), ?_, ?_⟩
    · have e : hdr s.size = [s.size] := by unfold hdr; rw [if_neg (by omega)]
      rw [e]
      exact lit1i _ _ _
    · exact Same.new _ _ _
  · rintro _ rg h1 ⟨rfl, v, r0, r1, r6, a1, a2⟩
    simp -dsimp (disch := omega) only [go_sem, ↓reduceIte, Nat.reduceAdd, Nat.reduceSub, Nat.reduceMul, Nat.reduceLeDiff, Nat.reduceLT, Nat.reduceEqDiff, Nat.reduceBEq, Int.reduceEq, Int.reduceLT, Int.reduceLE, Int.reduceNeg, Int.reduceAdd, Int.reduceSub, Int.reduceMul, beq_self_eq_true, gt_of r0, gt_of r1, gt_of r6]
    have hl : (hdr s.size).length ≤ 2 := by unfold hdr; split <;> simp
    refine Runs.loop (loop_rule 12000 (fun i rg h' => ∃ p v xs, InvB s b h.next h i rg h' p v xs) (Q := fun e rg h' => e = .exit 0 ∧ ∃ v, T.get rg 0 = some (.s s) ∧ T.get rg 1 = some (.i .i64 (b : Int)) ∧ T.get rg 6 = some v ∧ SlN .i64 3 h.next h' v (hdr s.size ++ cs s) ∧ Same h.next h h') ?_ s.size _ _ _ (by omega) ⟨0, v, hdr s.size, ?_⟩) ?_
    · intro m i rg h' hm ⟨p, v, xs, hi⟩
      obtain ⟨m, rfl⟩ : ∃ n, m = n + 100 := ⟨m - 100, by omega⟩
      have r0 := hi.r0; have r1 := hi.r1; have r26 := hi.r26; have r27 := hi.r27; have r6 := hi.r6; have pi := hi.pi
      have hl := hi.len
      have hb := bt_lt s p
      simp -dsimp (disch := omega) only [go_sem, ↓reduceIte, Nat.reduceAdd, Nat.reduceSub, Nat.reduceMul, Nat.reduceLeDiff, Nat.reduceLT, Nat.reduceEqDiff, Nat.reduceBEq, Int.reduceEq, Int.reduceLT, Int.reduceLE, Int.reduceNeg, Int.reduceAdd, Int.reduceSub, Int.reduceMul, beq_self_eq_true, gt_of r0, gt_of r27, gt_of r26, gt_of r6]
      refine RunsC.brd (fun c1 => ?_) (fun c1 => ?_) <;> simp -dsimp (disch := omega) only [go_sem, ↓reduceIte, Nat.reduceAdd, Nat.reduceSub, Nat.reduceMul, Nat.reduceLeDiff, Nat.reduceLT, Nat.reduceEqDiff, Nat.reduceBEq, Int.reduceEq, Int.reduceLT, Int.reduceLE, Int.reduceNeg, Int.reduceAdd, Int.reduceSub, Int.reduceMul, beq_self_eq_true, gt_of r0, gt_of r27, gt_of r26, gt_of r6]
      · refine RunsC.app (app1i hi.sl hi.same.next _ (by omega)) (by simp only [get_put, ↓reduceIte, Nat.reduceEqDiff] <;> first | assumption | rfl) (by simp only [get_put, ↓reduceIte, Nat.reduceEqDiff] <;> first | assumption | rfl) ?_
        intro v' h2 ⟨a1, a2, _⟩
        simp -dsimp (disch := omega) only [go_sem, ↓reduceIte, Nat.reduceAdd, Nat.reduceSub, Nat.reduceMul, Nat.reduceLeDiff, Nat.reduceLT, Nat.reduceEqDiff, Nat.reduceBEq, Int.reduceEq, Int.reduceLT, Int.reduceLE, Int.reduceNeg, Int.reduceAdd, Int.reduceSub, Int.reduceMul, beq_self_eq_true, gt_of r0, gt_of r27, gt_of r26, gt_of r6]
        refine RunsC.again (s.size - (p + 1)) (by omega) ⟨p + 1, v', _, ⟨by omega, (by simp only [get_put, ↓reduceIte, Nat.reduceEqDiff] <;> first | assumption | rfl), (by simp only [get_put, ↓reduceIte, Nat.reduceEqDiff] <;> first | assumption | rfl), (by simp only [get_put, ↓reduceIte, Nat.reduceEqDiff] <;> first | assumption | rfl), (by simp only [get_put, ↓reduceIte, Nat.reduceEqDiff] <;> first | assumption | rfl), (by simp only [get_put, ↓reduceIte, Nat.reduceEqDiff] <;> first | assumption | rfl), a1, hi.same.trans a2, ?_, ?_⟩⟩
        · rw [List.append_assoc, List.singleton_append, ← drop_bt s p (by omega)]
          exact hi.enc
        · simp only [List.length_append, List.length_singleton]; omega
      · refine RunsC.leave ⟨rfl, v, (by simp only [get_put, ↓reduceIte, Nat.reduceEqDiff] <;> first | assumption | rfl), (by simp only [get_put, ↓reduceIte, Nat.reduceEqDiff] <;> first | assumption | rfl), (by simp only [get_put, ↓reduceIte, Nat.reduceEqDiff] <;> first | assumption | rfl), ?_, hi.same⟩
        have := hi.enc
        rw [List.drop_eq_nil_of_le (by rw [cs_len]; omega), List.append_nil] at this
        rw [← this]; exact hi.sl
    · exact ⟨by omega, (by simp only [get_put, ↓reduceIte, Nat.reduceEqDiff] <;> first | assumption | rfl), (by simp only [get_put, ↓reduceIte, Nat.reduceEqDiff] <;> first | assumption | rfl), (by simp only [get_put, ↓reduceIte, Nat.reduceEqDiff] <;> first | assumption | rfl), (by simp only [get_put, ↓reduceIte, Nat.reduceEqDiff] <;> first | assumption | rfl), (by simp only [get_put, ↓reduceIte, Nat.reduceEqDiff] <;> first | assumption | rfl), a1, a2, by simp, by omega⟩
    · rintro _ rg h2 ⟨rfl, u, r0, r1, r6, b1, b2⟩
      have hll : (hdr s.size ++ cs s).length < 2010 := by rw [List.length_append, cs_len]; omega
      have hel : ∀ p, (hdr s.size ++ cs s).getD p 0 < 1000 := by
        intro p
        rw [List.getD_eq_getElem?_getD]
        rcases hx : (hdr s.size ++ cs s)[p]? with _ | x
        · decide
        · have hx := List.mem_of_getElem? hx
          rw [List.mem_append] at hx
          rcases hx with hx | hx
          · unfold hdr at hx
            split at hx <;> simp at hx <;> simp <;> omega
          · unfold cs at hx
            rw [List.mem_map] at hx
            obtain ⟨y, _, rfl⟩ := hx
            have := y.toNat_lt
            simp; omega
      generalize hL : hdr s.size ++ cs s = l at b1 hll hel
      simp -dsimp (disch := omega) only [go_sem, ↓reduceIte, Nat.reduceAdd, Nat.reduceSub, Nat.reduceMul, Nat.reduceLeDiff, Nat.reduceLT, Nat.reduceEqDiff, Nat.reduceBEq, Int.reduceEq, Int.reduceLT, Int.reduceLE, Int.reduceNeg, Int.reduceAdd, Int.reduceSub, Int.reduceMul, beq_self_eq_true, gt_of r0, gt_of r1, gt_of r6, b1.sl.ln22]
      refine Runs.loop (loop_rule 12000 (fun i rg h' => ∃ p v xs, InvB2 s l u b h2.next h h2 i rg h' p v xs) (Q := fun e rg h' => e = .exit 2 ∧ ∃ v, T.get rg 0 = some (.s s) ∧ T.get rg 8 = some v ∧ SlN .i64 3 h2.next h' v (231 :: rz (b + 2) l) ∧ Same h2.next h2 h') ?_ l.length _ _ _ (by omega) ⟨0, .sl h2.next 0 1 1, [231], ?_⟩) ?_
      · intro m i rg h' hm ⟨p, v, xs, hi⟩
        obtain ⟨m, rfl⟩ : ∃ n, m = n + 100 := ⟨m - 100, by omega⟩
        have r0 := hi.r0; have r1 := hi.r1; have r40 := hi.r40; have r41 := hi.r41; have r39 := hi.r39; have r8 := hi.r8; have pi := hi.pi
        have hl := hi.len
        have hb := hel p
        have hr := rand_le (b + p + 2) 255 (by omega)
        have hu := (b1.keep hi.same (Nat.le_refl _)).sl
        simp -dsimp (disch := omega) only [go_sem, ↓reduceIte, Nat.reduceAdd, Nat.reduceSub, Nat.reduceMul, Nat.reduceLeDiff, Nat.reduceLT, Nat.reduceEqDiff, Nat.reduceBEq, Int.reduceEq, Int.reduceLT, Int.reduceLE, Int.reduceNeg, Int.reduceAdd, Int.reduceSub, Int.reduceMul, beq_self_eq_true, gt_of r0, gt_of r1, gt_of r40, gt_of r41, gt_of r39, gt_of r8]
        refine RunsC.brd (fun c1 => ?_) (fun c1 => ?_) <;> simp -dsimp (disch := omega) only [go_sem, ↓reduceIte, Nat.reduceAdd, Nat.reduceSub, Nat.reduceMul, Nat.reduceLeDiff, Nat.reduceLT, Nat.reduceEqDiff, Nat.reduceBEq, Int.reduceEq, Int.reduceLT, Int.reduceLE, Int.reduceNeg, Int.reduceAdd, Int.reduceSub, Int.reduceMul, beq_self_eq_true, gt_of r0, gt_of r1, gt_of r40, gt_of r41, gt_of r39, gt_of r8, hu.ix, hu.ld, f43b]
        · refine RunsC.app (app1i hi.sl hi.same.next _ (by omega)) (by simp only [get_put, ↓reduceIte, Nat.reduceEqDiff] <;> first | assumption | rfl) (by simp only [get_put, ↓reduceIte, Nat.reduceEqDiff] <;> first | assumption | rfl) ?_
          intro v' h3 ⟨a1, a2, _⟩
          simp -dsimp (disch := omega) only [go_sem, ↓reduceIte, Nat.reduceAdd, Nat.reduceSub, Nat.reduceMul, Nat.reduceLeDiff, Nat.reduceLT, Nat.reduceEqDiff, Nat.reduceBEq, Int.reduceEq, Int.reduceLT, Int.reduceLE, Int.reduceNeg, Int.reduceAdd, Int.reduceSub, Int.reduceMul, beq_self_eq_true, gt_of r0, gt_of r1, gt_of r40, gt_of r41, gt_of r39, gt_of r8]
          refine RunsC.again (l.length - (p + 1)) (by omega) ⟨p + 1, v', _, ⟨by omega, (by simp only [get_put, ↓reduceIte, Nat.reduceEqDiff] <;> first | assumption | rfl), (by simp only [get_put, ↓reduceIte, Nat.reduceEqDiff] <;> first | assumption | rfl), (by simp only [get_put, ↓reduceIte, Nat.reduceEqDiff] <;> first | assumption | rfl), (by simp only [get_put, ↓reduceIte, Nat.reduceEqDiff] <;> first | assumption | rfl), (by simp only [get_put, ↓reduceIte, Nat.reduceEqDiff] <;> first | assumption | rfl), (by simp only [get_put, ↓reduceIte, Nat.reduceEqDiff] <;> first | assumption | rfl), a1, hi.same.trans a2, ?_, ?_⟩⟩
          · rw [List.append_assoc, List.singleton_append, ← hi.enc, drop_getD l p (by omega), rz, show b + p + 2 = b + 2 + p by omega]
            rfl
          · simp only [List.length_append, List.length_singleton]; omega
        · refine RunsC.leave ⟨rfl, v, (by simp only [get_put, ↓reduceIte, Nat.reduceEqDiff] <;> first | assumption | rfl), (by simp only [get_put, ↓reduceIte, Nat.reduceEqDiff] <;> first | assumption | rfl), ?_, hi.same⟩
          have := hi.enc
          rw [List.drop_eq_nil_of_le (by omega), rz, List.append_nil] at this
          rw [← this]; exact hi.sl
      · exact ⟨by omega, (by simp only [get_put, ↓reduceIte, Nat.reduceEqDiff] <;> first | assumption | rfl), (by simp only [get_put, ↓reduceIte, Nat.reduceEqDiff] <;> first | assumption | rfl), (by simp only [get_put, ↓reduceIte, Nat.reduceEqDiff] <;> first | assumption | rfl), (by simp only [get_put, ↓reduceIte, Nat.reduceEqDiff] <;> first | assumption | rfl), (by simp only [get_put, ↓reduceIte, Nat.reduceEqDiff] <;> first | assumption | rfl), (by simp only [get_put, ↓reduceIte, Nat.reduceEqDiff] <;> first | assumption | rfl), lit1i _ _ _, Same.new _ _ _, by simp, by simp⟩
      · rintro _ rg h3 ⟨rfl, v, r0, r8, d1, d2⟩
        simp -dsimp (disch := omega) only [go_sem, ↓reduceIte, Nat.reduceAdd, Nat.reduceSub, Nat.reduceMul, Nat.reduceLeDiff, Nat.reduceLT, Nat.reduceEqDiff, Nat.reduceBEq, Int.reduceEq, Int.reduceLT, Int.reduceLE, Int.reduceNeg, Int.reduceAdd, Int.reduceSub, Int.reduceMul, beq_self_eq_true, gt_of r0, gt_of r8]
        refine Runs.ret ⟨v, rfl, ?_, b2.trans (d2.less b2.next)⟩
        unfold encB
        rw [cs_len, hL]
        exact d1.less b2.next
end Go.Proofs.YtcnallabiffemaaGreatDoor.Vm
