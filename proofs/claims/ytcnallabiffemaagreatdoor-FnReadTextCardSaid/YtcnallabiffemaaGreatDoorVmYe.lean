/- Reading ASCII codewords: run with letters. Conditions: codewords with their characters, and fewer than 5000 of them. -/
import Derived.Test.YtcnallabiffemaaGreatDoorVmYd
set_option linter.unusedSimpArgs false
set_option linter.unusedVariables false
namespace Go.Proofs.YtcnallabiffemaaGreatDoor.Vm
open Go
theorem br_dt {p : Prop} {_i : Decidable p} (x y : R) (w : Tok (x, y)) (h : p) : br (decide p) x y w = x := by rw [decide_eq_true h]; rfl
theorem br_df {p : Prop} {_i : Decidable p} (x y : R) (w : Tok (x, y)) (h : ¬p) : br (decide p) x y w = y := by rw [decide_eq_false h]; rfl
theorem drop_c {W : List Nat} {p x : Nat} {ws : List Nat} (h : W.drop p = x :: ws) : p < W.length ∧ W.getD p 0 = x ∧ W.drop (p + 1) = ws := by
  have hp : p < W.length := by
    rcases Nat.lt_or_ge p W.length with h1 | h1
    · exact h1
    · rw [List.drop_eq_nil_of_le h1] at h; cases h
  rw [drop_getD W p hp] at h
  injection h with h1 h2
  exact ⟨hp, h1, h2⟩
attribute [local go_sem] br_dt br_df cvS_s
attribute [local go_sem ↓] in_cv9_42
structure InvQ (W : List Nat) (data : AV) (bs : Nat) (h0 : AH) (v0 tr : AV) (total : List Nat) (rg : T AV) (h : AH) (p : Nat) (v : AV) (xs t : List Nat) : Prop where
  r0 : T.get rg 0 = some (.p bs 0)
  r1 : T.get rg 1 = some v
  r2 : T.get rg 2 = some tr
  r12 : T.get rg 12 = some (.b false)
  d : Dst W data bs h0 v0 h v p 0 xs
  tok : Tok' p (W.drop p) t
  all : xs ++ t = total
def PostQ (W : List Nat) (data : AV) (bs p0 : Nat) (h0 : AH) (v0 tr : AV) (total : List Nat) (rg : T AV) (h : AH) : Prop :=
  ∃ (md p : Nat) (v : AV) (xs t : List Nat), T.get rg 8 = some (.i .i64 (md : Int)) ∧ T.get rg 9 = some v ∧ T.get rg 10 = some tr ∧ T.get rg 11 = some .ni ∧ (p0 < p ∧ p ≤ W.length) ∧ Dst W data bs h0 v0 h v p 0 xs ∧ Mid md p (W.drop p) t ∧ xs ++ t = total
set_option maxHeartbeats 4000000 in
set_option maxRecDepth 100000 in
theorem f34 {m : Nat} {h : AH} {W total xs0 t0 : List Nat} {data v0 tr mp : AV} {bs p0 : Nat} (hm : 40000 ≤ m)
    (e : Envd data bs h v0) (hW : W.length < 5000) (hlt : ∀ x ∈ W, x < 256) (hd : Dst W data bs h v0 h v0 p0 0 xs0) (htok : Tok' p0 (W.drop p0) t0) (hall : xs0 ++ t0 = total) (ht : total.length < 5000) :
    Runs (fun k => cl Tryz.prog (exec Tryz.prog m) false 34 (.c (.p bs 0) (.c v0 (.c tr (.c mp .e)))) h k ⟨⟩) fun r h' =>
      ∃ (md p : Nat) (v : AV) (xs t : List Nat), r = .tu (.c (.i .i64 (md : Int)) (.c v (.c tr (.c .ni .e)))) ∧ (p0 < p ∧ p ≤ W.length) ∧ Dst W data bs h v0 h' v p 0 xs ∧ Mid md p (W.drop p) t ∧ xs ++ t = total := by
  obtain ⟨m, rfl⟩ : ∃ n, m = n + 100 := ⟨m - 100, by omega⟩
  refine Runs.of_eq (fun k => cl_in Tryz.func34 rfl (by kernel_rfl) Tryz.ntmps34 Tryz.results34 rfl rfl _ _ _ _ _ _) ?_
  have hp0 : p0 < W.length := by have := htok.len; rw [List.length_drop] at this; omega
  simp -dsimp (disch := omega) only [go_sem, ↓reduceIte, Nat.reduceAdd, Nat.reduceSub, Nat.reduceMul, Nat.reduceLeDiff, Nat.reduceLT, Nat.reduceEqDiff, Nat.reduceBEq, Int.reduceEq, Int.reduceLT, Int.reduceLE, Int.reduceNeg, Int.reduceAdd, Int.reduceSub, Int.reduceMul, beq_self_eq_true, Nat.zero_add]
  refine Runs.loop (loop_rule 22000 (fun i rg h' => ∃ p v xs t, (p + i = W.length ∧ p0 ≤ p) ∧ InvQ W data bs h v0 tr total rg h' p v xs t)
    (Q := fun e rg h' => e = .ret ∧ PostQ W data bs p0 h v0 tr total rg h') ?_ (W.length - p0) _ _ _ (by omega) ⟨p0, v0, xs0, t0, by omega, ⟨(by (try simp only [get_put, ↓reduceIte, Nat.reduceEqDiff]) <;> first | assumption | rfl), (by (try simp only [get_put, ↓reduceIte, Nat.reduceEqDiff]) <;> first | assumption | rfl), (by (try simp only [get_put, ↓reduceIte, Nat.reduceEqDiff]) <;> first | assumption | rfl), (by (try simp only [get_put, ↓reduceIte, Nat.reduceEqDiff]) <;> first | assumption | rfl), hd, htok, hall⟩⟩) ?_
  · rintro m i rg h' hm ⟨p, v, xs, t, ⟨pi, pge⟩, hi⟩
    obtain ⟨m, rfl⟩ : ∃ n, m = n + 100 := ⟨m - 100, by omega⟩
    have r0 := hi.r0; have r1 := hi.r1; have r2 := hi.r2; have r12 := hi.r12
    have hal := hi.all
    have hxl : xs.length < 5000 := by rw [← hal, List.length_append] at ht; omega
    have htk := hi.tok
    have hp : p < W.length := by have := htk.len; rw [List.length_drop] at this; omega
    have hav : (0 : Int) < ((8 * (W.length - p) - 0 : Nat) : Int) := by omega
    generalize hw : W.drop p = ws at htk
    simp -dsimp (disch := omega) only [go_sem, ↓reduceIte, Nat.reduceAdd, Nat.reduceSub, Nat.reduceMul, Nat.reduceLeDiff, Nat.reduceLT, Nat.reduceEqDiff, Nat.reduceBEq, Int.reduceEq, Int.reduceLT, Int.reduceLE, Int.reduceNeg, Int.reduceAdd, Int.reduceSub, Int.reduceMul, beq_self_eq_true, Nat.zero_add, gt_of r0, gt_of r1, gt_of r2, gt_of r12, f33 hi.d.bits hi.d.data hW (by omega) (by omega) (by omega)]
    refine RunsC.bind (f55_80 (by omega) hi.d.bits hi.d.data e.ne hW (by omega) hlt) ?_
    rintro _ h2 ⟨rfl, hb, hr⟩
    have hd2 := hi.d.read e hb hr
    have hx256 := mem_lt (by omega) hlt p
    cases htk with
    | done _ rest hge =>
      obtain ⟨_, hx, hdw⟩ := drop_c hw
      generalize W.getD p 0 = x at *
      simp -dsimp (disch := omega) only [go_sem, ↓reduceIte, Nat.reduceAdd, Nat.reduceSub, Nat.reduceMul, Nat.reduceLeDiff, Nat.reduceLT, Nat.reduceEqDiff, Nat.reduceBEq, Int.reduceEq, Int.reduceLT, Int.reduceLE, Int.reduceNeg, Int.reduceAdd, Int.reduceSub, Int.reduceMul, beq_self_eq_true, Nat.zero_add, gt_of r0, gt_of r1, gt_of r2, gt_of r12]
      exact RunsC.back ⟨rfl, 0, p + 1, v, xs, [], (by (try simp only [get_put, ↓reduceIte, Nat.reduceEqDiff]) <;> first | assumption | rfl), (by (try simp only [get_put, ↓reduceIte, Nat.reduceEqDiff]) <;> first | assumption | rfl), (by (try simp only [get_put, ↓reduceIte, Nat.reduceEqDiff]) <;> first | assumption | rfl), (by (try simp only [get_put, ↓reduceIte, Nat.reduceEqDiff]) <;> first | assumption | rfl), by omega, hd2, .inl ⟨rfl, rfl⟩, hal⟩
    | chr _ c ws t hc htk =>
      obtain ⟨_, hx, hdw⟩ := drop_c hw
      generalize W.getD p 0 = x at *
      simp -dsimp (disch := omega) only [go_sem, ↓reduceIte, Nat.reduceAdd, Nat.reduceSub, Nat.reduceMul, Nat.reduceLeDiff, Nat.reduceLT, Nat.reduceEqDiff, Nat.reduceBEq, Int.reduceEq, Int.reduceLT, Int.reduceLE, Int.reduceNeg, Int.reduceAdd, Int.reduceSub, Int.reduceMul, beq_self_eq_true, Nat.zero_add, gt_of r0, gt_of r1, gt_of r2, gt_of r12]
      refine RunsC.app (app1s hd2.out _ (by omega)) (by (try simp only [get_put, ↓reduceIte, Nat.reduceEqDiff]) <;> first | assumption | rfl) (by (try simp only [get_put, ↓reduceIte, Nat.reduceEqDiff]) <;> first | assumption | rfl) ?_
      rintro v' h3 ⟨b1, b2, b3, b4⟩
      simp -dsimp (disch := omega) only [go_sem, ↓reduceIte, Nat.reduceAdd, Nat.reduceSub, Nat.reduceMul, Nat.reduceLeDiff, Nat.reduceLT, Nat.reduceEqDiff, Nat.reduceBEq, Int.reduceEq, Int.reduceLT, Int.reduceLE, Int.reduceNeg, Int.reduceAdd, Int.reduceSub, Int.reduceMul, beq_self_eq_true, Nat.zero_add, gt_of r0, gt_of r1, gt_of r2, gt_of r12]
      refine RunsC.back ⟨rfl, 1, p + 1, v', xs ++ [c], t, (by (try simp only [get_put, ↓reduceIte, Nat.reduceEqDiff]) <;> first | assumption | rfl), (by (try simp only [get_put, ↓reduceIte, Nat.reduceEqDiff]) <;> first | assumption | rfl), (by (try simp only [get_put, ↓reduceIte, Nat.reduceEqDiff]) <;> first | assumption | rfl), (by (try simp only [get_put, ↓reduceIte, Nat.reduceEqDiff]) <;> first | assumption | rfl), by omega, ?_, .inr (.inl ⟨rfl, by rw [hdw]; exact htk⟩), by rw [List.append_assoc]; exact hal⟩
      have := hd2.push e b1 b2 b3 b4
      rw [show x - 1 = c by omega] at this
      exact this
    | dig _ a b ws t ha hb htk =>
      obtain ⟨_, hx, hdw⟩ := drop_c hw
      generalize W.getD p 0 = x at *
      have htl : xs.length + 2 < 5000 := by rw [← hal, List.length_append] at ht; simp only [List.length_cons] at ht; omega
      simp -dsimp (disch := omega) only [go_sem, ↓reduceIte, Nat.reduceAdd, Nat.reduceSub, Nat.reduceMul, Nat.reduceLeDiff, Nat.reduceLT, Nat.reduceEqDiff, Nat.reduceBEq, Int.reduceEq, Int.reduceLT, Int.reduceLE, Int.reduceNeg, Int.reduceAdd, Int.reduceSub, Int.reduceMul, beq_self_eq_true, Nat.zero_add, gt_of r0, gt_of r1, gt_of r2, gt_of r12]
      by_cases c10 : x - 130 < 10
      · simp -dsimp (disch := omega) only [go_sem, ↓reduceIte, Nat.reduceAdd, Nat.reduceSub, Nat.reduceMul, Nat.reduceLeDiff, Nat.reduceLT, Nat.reduceEqDiff, Nat.reduceBEq, Int.reduceEq, Int.reduceLT, Int.reduceLE, Int.reduceNeg, Int.reduceAdd, Int.reduceSub, Int.reduceMul, beq_self_eq_true, Nat.zero_add, gt_of r0, gt_of r1, gt_of r2, gt_of r12]
        refine RunsC.app (app1s hd2.out 48 (by omega)) (by (try simp only [get_put, ↓reduceIte, Nat.reduceEqDiff]) <;> first | assumption | rfl) (by (try simp only [get_put, ↓reduceIte, Nat.reduceEqDiff]) <;> first | assumption | rfl) ?_
        rintro v' h3 ⟨b1, b2, b3, b4⟩
        have hd3 := hd2.push e b1 b2 b3 b4
        simp -dsimp (disch := omega) only [go_sem, ↓reduceIte, Nat.reduceAdd, Nat.reduceSub, Nat.reduceMul, Nat.reduceLeDiff, Nat.reduceLT, Nat.reduceEqDiff, Nat.reduceBEq, Int.reduceEq, Int.reduceLT, Int.reduceLE, Int.reduceNeg, Int.reduceAdd, Int.reduceSub, Int.reduceMul, beq_self_eq_true, Nat.zero_add, gt_of r0, gt_of r1, gt_of r2, gt_of r12]
        refine RunsC.bind (f56 (by omega) (by omega)) ?_
        rintro _ h3 ⟨s, rfl, rfl, es⟩
        simp -dsimp (disch := omega) only [go_sem, ↓reduceIte, Nat.reduceAdd, Nat.reduceSub, Nat.reduceMul, Nat.reduceLeDiff, Nat.reduceLT, Nat.reduceEqDiff, Nat.reduceBEq, Int.reduceEq, Int.reduceLT, Int.reduceLE, Int.reduceNeg, Int.reduceAdd, Int.reduceSub, Int.reduceMul, beq_self_eq_true, Nat.zero_add, gt_of r0, gt_of r1, gt_of r2, gt_of r12]
        rw [dd, if_pos c10] at es
        have hsz := cs_len s
        rw [es] at hsz
        refine RunsC.app (appRs hd3.out (has_layk .u8 .leaf (cs s)) s.size (cs_len s) (by rw [es]; simp) (by rw [es]; simp; omega)) (by (try simp only [get_put, ↓reduceIte, Nat.reduceEqDiff]) <;> first | assumption | rfl) (by (try simp only [get_put, ↓reduceIte, Nat.reduceEqDiff]) <;> first | assumption | rfl) ?_
        rintro v' h4 ⟨b1, b2, b3, b4⟩
        have hd4 := hd3.push e b1 b2 b3 b4
        simp -dsimp (disch := omega) only [go_sem, ↓reduceIte, Nat.reduceAdd, Nat.reduceSub, Nat.reduceMul, Nat.reduceLeDiff, Nat.reduceLT, Nat.reduceEqDiff, Nat.reduceBEq, Int.reduceEq, Int.reduceLT, Int.reduceLE, Int.reduceNeg, Int.reduceAdd, Int.reduceSub, Int.reduceMul, beq_self_eq_true, Nat.zero_add, gt_of r0, gt_of r1, gt_of r2, gt_of r12]
        refine RunsC.again (W.length - (p + 1)) (by omega) ⟨p + 1, v', _, t, by omega, ⟨(by (try simp only [get_put, ↓reduceIte, Nat.reduceEqDiff]) <;> first | assumption | rfl), (by (try simp only [get_put, ↓reduceIte, Nat.reduceEqDiff]) <;> first | assumption | rfl), (by (try simp only [get_put, ↓reduceIte, Nat.reduceEqDiff]) <;> first | assumption | rfl), (by (try simp only [get_put, ↓reduceIte, Nat.reduceEqDiff]) <;> first | assumption | rfl), hd4, by rw [hdw]; exact htk, ?_⟩⟩
        rw [es, ← hal, show x - 130 = b by omega, show a = 0 by omega]
        simp
      · simp -dsimp (disch := omega) only [go_sem, ↓reduceIte, Nat.reduceAdd, Nat.reduceSub, Nat.reduceMul, Nat.reduceLeDiff, Nat.reduceLT, Nat.reduceEqDiff, Nat.reduceBEq, Int.reduceEq, Int.reduceLT, Int.reduceLE, Int.reduceNeg, Int.reduceAdd, Int.reduceSub, Int.reduceMul, beq_self_eq_true, Nat.zero_add, gt_of r0, gt_of r1, gt_of r2, gt_of r12]
        refine RunsC.bind (f56 (by omega) (by omega)) ?_
        rintro _ h3 ⟨s, rfl, rfl, es⟩
        simp -dsimp (disch := omega) only [go_sem, ↓reduceIte, Nat.reduceAdd, Nat.reduceSub, Nat.reduceMul, Nat.reduceLeDiff, Nat.reduceLT, Nat.reduceEqDiff, Nat.reduceBEq, Int.reduceEq, Int.reduceLT, Int.reduceLE, Int.reduceNeg, Int.reduceAdd, Int.reduceSub, Int.reduceMul, beq_self_eq_true, Nat.zero_add, gt_of r0, gt_of r1, gt_of r2, gt_of r12]
        rw [dd, if_neg c10] at es
        refine RunsC.app (appRs hd2.out (has_layk .u8 .leaf (cs s)) s.size (cs_len s) (by rw [es]; simp) (by rw [es]; simp; omega)) (by (try simp only [get_put, ↓reduceIte, Nat.reduceEqDiff]) <;> first | assumption | rfl) (by (try simp only [get_put, ↓reduceIte, Nat.reduceEqDiff]) <;> first | assumption | rfl) ?_
        rintro v' h4 ⟨b1, b2, b3, b4⟩
        have hd4 := hd2.push e b1 b2 b3 b4
        simp -dsimp (disch := omega) only [go_sem, ↓reduceIte, Nat.reduceAdd, Nat.reduceSub, Nat.reduceMul, Nat.reduceLeDiff, Nat.reduceLT, Nat.reduceEqDiff, Nat.reduceBEq, Int.reduceEq, Int.reduceLT, Int.reduceLE, Int.reduceNeg, Int.reduceAdd, Int.reduceSub, Int.reduceMul, beq_self_eq_true, Nat.zero_add, gt_of r0, gt_of r1, gt_of r2, gt_of r12]
        refine RunsC.again (W.length - (p + 1)) (by omega) ⟨p + 1, v', _, t, by omega, ⟨(by (try simp only [get_put, ↓reduceIte, Nat.reduceEqDiff]) <;> first | assumption | rfl), (by (try simp only [get_put, ↓reduceIte, Nat.reduceEqDiff]) <;> first | assumption | rfl), (by (try simp only [get_put, ↓reduceIte, Nat.reduceEqDiff]) <;> first | assumption | rfl), (by (try simp only [get_put, ↓reduceIte, Nat.reduceEqDiff]) <;> first | assumption | rfl), hd4, by rw [hdw]; exact htk, ?_⟩⟩
        rw [es, ← hal, show (x - 130) / 10 = a by omega, show (x - 130) % 10 = b by omega]
        simp
    | edi _ u ws t hu htk =>
      obtain ⟨_, hx, hdw⟩ := drop_c (x := 240) (ws := go6 0 0 (sext u) ++ ws) hw
      generalize W.getD p 0 = x at *
      simp -dsimp (disch := omega) only [go_sem, ↓reduceIte, Nat.reduceAdd, Nat.reduceSub, Nat.reduceMul, Nat.reduceLeDiff, Nat.reduceLT, Nat.reduceEqDiff, Nat.reduceBEq, Int.reduceEq, Int.reduceLT, Int.reduceLE, Int.reduceNeg, Int.reduceAdd, Int.reduceSub, Int.reduceMul, beq_self_eq_true, Nat.zero_add, gt_of r0, gt_of r1, gt_of r2, gt_of r12]
      exact RunsC.back ⟨rfl, 5, p + 1, v, xs, u ++ t, (by (try simp only [get_put, ↓reduceIte, Nat.reduceEqDiff]) <;> first | assumption | rfl), (by (try simp only [get_put, ↓reduceIte, Nat.reduceEqDiff]) <;> first | assumption | rfl), (by (try simp only [get_put, ↓reduceIte, Nat.reduceEqDiff]) <;> first | assumption | rfl), (by (try simp only [get_put, ↓reduceIte, Nat.reduceEqDiff]) <;> first | assumption | rfl), by omega, hd2, .inr (.inr (.inl ⟨rfl, u, ws, t, hdw, rfl, hu, by
        rw [show p + (encE u).length = p + 1 + (go6 0 0 (sext u)).length by simp [encE]; omega] at htk; exact htk⟩)), hal⟩
    | byt _ u ws t hu hn hl htk =>
      obtain ⟨_, hx, hdw⟩ := drop_c (x := 231) (ws := rz (p + 2) (hdr u.length ++ u) ++ ws) hw
      generalize W.getD p 0 = x at *
      simp -dsimp (disch := omega) only [go_sem, ↓reduceIte, Nat.reduceAdd, Nat.reduceSub, Nat.reduceMul, Nat.reduceLeDiff, Nat.reduceLT, Nat.reduceEqDiff, Nat.reduceBEq, Int.reduceEq, Int.reduceLT, Int.reduceLE, Int.reduceNeg, Int.reduceAdd, Int.reduceSub, Int.reduceMul, beq_self_eq_true, Nat.zero_add, gt_of r0, gt_of r1, gt_of r2, gt_of r12]
      exact RunsC.back ⟨rfl, 6, p + 1, v, xs, u ++ t, (by (try simp only [get_put, ↓reduceIte, Nat.reduceEqDiff]) <;> first | assumption | rfl), (by (try simp only [get_put, ↓reduceIte, Nat.reduceEqDiff]) <;> first | assumption | rfl), (by (try simp only [get_put, ↓reduceIte, Nat.reduceEqDiff]) <;> first | assumption | rfl), (by (try simp only [get_put, ↓reduceIte, Nat.reduceEqDiff]) <;> first | assumption | rfl), by omega, hd2, .inr (.inr (.inr (.inl ⟨rfl, u, ws, t, hdw, rfl, hu, hn, hl, by
        rw [show p + (encB p u).length = p + 1 + (rz (p + 1 + 1) (hdr u.length ++ u)).length by show p + ((rz (p + 2) (hdr u.length ++ u)).length + 1) = p + 1 + (rz (p + 2) (hdr u.length ++ u)).length; omega] at htk; exact htk⟩))), hal⟩
    | tri _ mode u l ws t hm3 hT h3 hl htk =>
      obtain ⟨_, hx, hdw⟩ := drop_c (x := latch mode) (ws := (pairs l ++ [254]) ++ ws) hw
      generalize W.getD p 0 = x at *
      have hmid : Mid (mode + 1) (p + 1) (W.drop (p + 1)) (u ++ t) := .inr (.inr (.inr (.inr ⟨mode, u, l, ws, t, rfl, hm3, by rw [hdw, List.append_assoc]; rfl, rfl, hT, h3, hl, by
        rw [show p + (encT mode l).length = p + 1 + (pairs l).length + 1 by simp [encT]; omega] at htk; exact htk⟩)))
      rcases hm3 with rfl | rfl | rfl
      · have hx : x = 230 := hx
        simp -dsimp (disch := omega) only [go_sem, ↓reduceIte, Nat.reduceAdd, Nat.reduceSub, Nat.reduceMul, Nat.reduceLeDiff, Nat.reduceLT, Nat.reduceEqDiff, Nat.reduceBEq, Int.reduceEq, Int.reduceLT, Int.reduceLE, Int.reduceNeg, Int.reduceAdd, Int.reduceSub, Int.reduceMul, beq_self_eq_true, Nat.zero_add, gt_of r0, gt_of r1, gt_of r2, gt_of r12]
        exact RunsC.back ⟨rfl, 2, p + 1, v, xs, u ++ t, (by (try simp only [get_put, ↓reduceIte, Nat.reduceEqDiff]) <;> first | assumption | rfl), (by (try simp only [get_put, ↓reduceIte, Nat.reduceEqDiff]) <;> first | assumption | rfl), (by (try simp only [get_put, ↓reduceIte, Nat.reduceEqDiff]) <;> first | assumption | rfl), (by (try simp only [get_put, ↓reduceIte, Nat.reduceEqDiff]) <;> first | assumption | rfl), by omega, hd2, hmid, hal⟩
      · have hx : x = 239 := hx
        simp -dsimp (disch := omega) only [go_sem, ↓reduceIte, Nat.reduceAdd, Nat.reduceSub, Nat.reduceMul, Nat.reduceLeDiff, Nat.reduceLT, Nat.reduceEqDiff, Nat.reduceBEq, Int.reduceEq, Int.reduceLT, Int.reduceLE, Int.reduceNeg, Int.reduceAdd, Int.reduceSub, Int.reduceMul, beq_self_eq_true, Nat.zero_add, gt_of r0, gt_of r1, gt_of r2, gt_of r12]
        exact RunsC.back ⟨rfl, 3, p + 1, v, xs, u ++ t, (by (try simp only [get_put, ↓reduceIte, Nat.reduceEqDiff]) <;> first | assumption | rfl), (by (try simp only [get_put, ↓reduceIte, Nat.reduceEqDiff]) <;> first | assumption | rfl), (by (try simp only [get_put, ↓reduceIte, Nat.reduceEqDiff]) <;> first | assumption | rfl), (by (try simp only [get_put, ↓reduceIte, Nat.reduceEqDiff]) <;> first | assumption | rfl), by omega, hd2, hmid, hal⟩
      · have hx : x = 238 := hx
        simp -dsimp (disch := omega) only [go_sem, ↓reduceIte, Nat.reduceAdd, Nat.reduceSub, Nat.reduceMul, Nat.reduceLeDiff, Nat.reduceLT, Nat.reduceEqDiff, Nat.reduceBEq, Int.reduceEq, Int.reduceLT, Int.reduceLE, Int.reduceNeg, Int.reduceAdd, Int.reduceSub, Int.reduceMul, beq_self_eq_true, Nat.zero_add, gt_of r0, gt_of r1, gt_of r2, gt_of r12]
        exact RunsC.back ⟨rfl, 4, p + 1, v, xs, u ++ t, (by (try simp only [get_put, ↓reduceIte, Nat.reduceEqDiff]) <;> first | assumption | rfl), (by (try simp only [get_put, ↓reduceIte, Nat.reduceEqDiff]) <;> first | assumption | rfl), (by (try simp only [get_put, ↓reduceIte, Nat.reduceEqDiff]) <;> first | assumption | rfl), (by (try simp only [get_put, ↓reduceIte, Nat.reduceEqDiff]) <;> first | assumption | rfl), by omega, hd2, hmid, hal⟩
  · rintro _ rg h' ⟨rfl, md, p, v, xs, t, r8, r9, r10, r11, h1, h2, h3, h4⟩
    simp -dsimp (disch := omega) only [go_sem, ↓reduceIte, Nat.reduceAdd, Nat.reduceSub, Nat.reduceMul, Nat.reduceLeDiff, Nat.reduceLT, Nat.reduceEqDiff, Nat.reduceBEq, Int.reduceEq, Int.reduceLT, Int.reduceLE, Int.reduceNeg, Int.reduceAdd, Int.reduceSub, Int.reduceMul, beq_self_eq_true, Nat.zero_add, gt_of r8, gt_of r9, gt_of r10, gt_of r11]
    exact Runs.ret ⟨md, p, v, xs, t, rfl, h1, h2, h3, h4⟩
end Go.Proofs.YtcnallabiffemaaGreatDoor.Vm
