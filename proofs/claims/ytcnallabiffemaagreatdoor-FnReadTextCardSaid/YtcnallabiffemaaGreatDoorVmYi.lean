/- Triples of X12: run with letters. Conditions: codewords with their characters. -/
import Derived.Test.YtcnallabiffemaaGreatDoorVmYg
set_option linter.unusedSimpArgs false
set_option linter.unusedVariables false
namespace Go.Proofs.YtcnallabiffemaaGreatDoor.Vm
open Go
attribute [local go_sem] br_dt br_df mkW_33 kn_i
structure InvY (W : List Nat) (data : AV) (bs idc : Nat) (h0 : AH) (v0 : AV) (mode a b c : Nat) (r total : List Nat) (rg : T AV) (h : AH) (j p : Nat) (v : AV) (xs : List Nat) (sh : Nat) (t : List Nat) : Prop where
  r0 : T.get rg 0 = some (.p bs 0)
  r1 : T.get rg 1 = some v
  r6 : T.get rg 6 = some (.sl idc 0 3 3)
  r11 : T.get rg 11 = some (.i .i64 (j : Int))
  d : Dst W data bs h0 v0 h v p 0 xs
  three : Three h idc a b c
  own : ¬ Owns v idc
  lt : idc < h.next
  pend : Pend mode sh t ([a, b, c].drop j ++ r)
  all : xs ++ t = total
structure InvX (W : List Nat) (data : AV) (bs idc : Nat) (h0 : AH) (v0 : AV) (mode : Nat) (total : List Nat) (rg : T AV) (h : AH) (p : Nat) (v : AV) (xs : List Nat) (sh : Nat) (t l ws : List Nat) : Prop where
  r0 : T.get rg 0 = some (.p bs 0)
  r1 : T.get rg 1 = some v
  r6 : T.get rg 6 = some (.sl idc 0 3 3)
  d : Dst W data bs h0 v0 h v p 0 xs
  cells : ∃ cs, T.get h.objs idc = some (.cells 3 3 cs)
  own : ¬ Owns v idc
  lt : idc < h.next
  pend : Pend mode sh t l
  h3 : l.length % 3 = 0
  words : W.drop p = pairs l ++ 254 :: ws
  all : xs ++ t = total
set_option maxHeartbeats 4000000 in
set_option maxRecDepth 100000 in
theorem f37 {m : Nat} {h : AH} {W total xs0 u0 l0 ws t1 : List Nat} {data v0 : AV} {bs p0 : Nat} (hm : 40000 ≤ m)
    (e : Envd data bs h v0) (hW : W.length < 5000) (hlt : ∀ x ∈ W, x < 256) (hd : Dst W data bs h v0 h v0 p0 0 xs0) (hp : W.drop p0 = pairs l0 ++ 254 :: ws) (hT : Trip 3 u0 l0) (h3 : l0.length % 3 = 0) (hall : xs0 ++ u0 = total) (ht : total.length < 5000)
    (hws : 3 ≤ ws.length) :
    Runs (fun k => cl Tryz.prog (exec Tryz.prog m) false 37 (.c (.p bs 0) (.c v0 .e)) h k ⟨⟩) fun r h' =>
      ∃ (p : Nat) (v : AV), r = .tu (.c v (.c .ni .e)) ∧ W.drop p = ws ∧ p = p0 + (pairs l0).length + 1 ∧ Dst W data bs h v0 h' v p 0 total := by
  obtain ⟨m, rfl⟩ : ∃ n, m = n + 100 := ⟨m - 100, by omega⟩
  refine Runs.of_eq (fun k => cl_in Tryz.func37 rfl (by kernel_rfl) Tryz.ntmps37 Tryz.results37 rfl rfl _ _ _ _ _ _) ?_
  simp -dsimp (disch := omega) only [go_sem, ↓reduceIte, Nat.reduceAdd, Nat.reduceSub, Nat.reduceMul, Nat.reduceLeDiff, Nat.reduceLT, Nat.reduceEqDiff, Nat.reduceBEq, Int.reduceEq, Int.reduceLT, Int.reduceLE, Int.reduceNeg, Int.reduceAdd, Int.reduceSub, Int.reduceMul, beq_self_eq_true, Nat.zero_add, mkW_33, kn_i]
  have hl0 : l0.length < 10000 := by have h1 := hT.len; have h2 := congrArg List.length hall; rw [List.length_append] at h2; omega
  have hnv : ¬ Owns v0 h.next := fun ho => absurd (hd.out.lt ho) (Nat.lt_irrefl _)
  refine Runs.loop (loop_rule 26000 (fun i rg h' => ∃ (p : Nat) (v : AV) (xs : List Nat) (sh : Nat) (t l : List Nat), l.length = i ∧ p + (pairs l).length = p0 + (pairs l0).length ∧ InvX W data bs h.next h v0 3 total rg h' p v xs sh t l ws)
    (Q := fun e rg h' => e = .ret ∧ ∃ p v, T.get rg 4 = some v ∧ T.get rg 5 = some .ni ∧ W.drop p = ws ∧ p = p0 + (pairs l0).length + 1 ∧ Dst W data bs h v0 h' v p 0 total) ?_ l0.length _ _ _ (by omega) ⟨p0, v0, xs0, 0, u0, l0, rfl, rfl, ⟨(by (try simp only [get_put, ↓reduceIte, Nat.reduceEqDiff]) <;> first | assumption | rfl), (by (try simp only [get_put, ↓reduceIte, Nat.reduceEqDiff]) <;> first | assumption | rfl), (by (try simp only [get_put, ↓reduceIte, Nat.reduceEqDiff]) <;> first | assumption | rfl), hd.same e (Same.new _ _ _), ⟨_, by simp only [get_put, if_true] <;> rfl⟩, hnv, Nat.lt_succ_self _, .inl ⟨rfl, hT⟩, h3, hp, hall⟩⟩) ?_
  · rintro m i rg h' hm ⟨p, v, xs, sh, t, l, li, pe, hi⟩
    obtain ⟨m, rfl⟩ : ∃ n, m = n + 100 := ⟨m - 100, by omega⟩
    have r0 := hi.r0; have r1 := hi.r1; have r6 := hi.r6
    have hxl : xs.length < 5000 := by have := hi.all; rw [← this, List.length_append] at ht; omega
    have hlw := congrArg List.length hi.words
    rw [List.length_drop, List.length_append, List.length_cons] at hlw
    have hpW : p < W.length := by omega
    have hav : (0 : Int) < ((8 * (W.length - p) - 0 : Nat) : Int) := by omega
    have hav2 : ¬ ((8 * (W.length - p) - 0 : Nat) : Int) = 8 := by omega
    have hlw' := hi.words
    have hpend := hi.pend
    have hl3 := hi.h3
    have hal := hi.all
    simp -dsimp (disch := omega) only [go_sem, ↓reduceIte, Nat.reduceAdd, Nat.reduceSub, Nat.reduceMul, Nat.reduceLeDiff, Nat.reduceLT, Nat.reduceEqDiff, Nat.reduceBEq, Int.reduceEq, Int.reduceLT, Int.reduceLE, Int.reduceNeg, Int.reduceAdd, Int.reduceSub, Int.reduceMul, beq_self_eq_true, Nat.zero_add, gt_of r0, gt_of r1, gt_of r6, f33 hi.d.bits hi.d.data hW (by omega) (by omega) (by omega)]
    refine RunsC.bind (f55_80 (by omega) hi.d.bits hi.d.data e.ne hW (by omega) hlt) ?_
    rintro _ h2 ⟨rfl, hb, hr⟩
    have hd2 := hi.d.read e hb hr
    have hidb : h.next ≠ bs := by have := e.blt; omega
    match l, hpend with
    | [], hpend =>
      obtain rfl := hpend.nil
      obtain ⟨_, hx, hdw⟩ := drop_c (x := 254) (ws := ws) hlw'
      generalize W.getD p 0 = x at *
      simp -dsimp (disch := omega) only [go_sem, ↓reduceIte, Nat.reduceAdd, Nat.reduceSub, Nat.reduceMul, Nat.reduceLeDiff, Nat.reduceLT, Nat.reduceEqDiff, Nat.reduceBEq, Int.reduceEq, Int.reduceLT, Int.reduceLE, Int.reduceNeg, Int.reduceAdd, Int.reduceSub, Int.reduceMul, beq_self_eq_true, Nat.zero_add, gt_of r0, gt_of r1, gt_of r6]
      rw [List.append_nil] at hal
      subst hal
      exact RunsC.back ⟨rfl, p + 1, v, (by (try simp only [get_put, ↓reduceIte, Nat.reduceEqDiff]) <;> first | assumption | rfl), (by (try simp only [get_put, ↓reduceIte, Nat.reduceEqDiff]) <;> first | assumption | rfl), hdw, by simp only [pairs, List.length_nil] at pe; omega, hd2⟩
    | [_], hpend => simp at hl3
    | [_, _], hpend => simp at hl3
    | a :: b :: c :: r, hpend =>
      have hab := hpend.lt
      have ha := hab a (by simp)
      have hbb := hab b (by simp)
      have hc := hab c (by simp)
      obtain ⟨_, hx, hdw⟩ := drop_c (x := (1600 * a + 40 * b + c + 1) / 256) (ws := (1600 * a + 40 * b + c + 1) % 256 :: (pairs r ++ 254 :: ws)) hlw'
      obtain ⟨hp1, hy, hdw2⟩ := drop_c hdw
      generalize W.getD p 0 = x at *
      simp -dsimp (disch := omega) only [go_sem, ↓reduceIte, Nat.reduceAdd, Nat.reduceSub, Nat.reduceMul, Nat.reduceLeDiff, Nat.reduceLT, Nat.reduceEqDiff, Nat.reduceBEq, Int.reduceEq, Int.reduceLT, Int.reduceLE, Int.reduceNeg, Int.reduceAdd, Int.reduceSub, Int.reduceMul, beq_self_eq_true, Nat.zero_add, gt_of r0, gt_of r1, gt_of r6]
      refine RunsC.bind (f55_80 (by omega) hd2.bits hd2.data e.ne hW (by omega) hlt) ?_
      rintro _ h3' ⟨rfl, hb3, hr3⟩
      have hd3 := hd2.read e hb3 hr3
      generalize W.getD (p + 1) 0 = y at *
      obtain ⟨cs, hcs⟩ := hi.cells
      have hcs3 : T.get h3'.objs h.next = some (.cells 3 3 cs) := by rw [hr3.2 _ hidb, hr.2 _ hidb, hcs]
      simp -dsimp (disch := omega) only [go_sem, ↓reduceIte, Nat.reduceAdd, Nat.reduceSub, Nat.reduceMul, Nat.reduceLeDiff, Nat.reduceLT, Nat.reduceEqDiff, Nat.reduceBEq, Int.reduceEq, Int.reduceLT, Int.reduceLE, Int.reduceNeg, Int.reduceAdd, Int.reduceSub, Int.reduceMul, beq_self_eq_true, Nat.zero_add, gt_of r0, gt_of r1, gt_of r6]
      refine RunsC.bind (f58 (by omega) (by omega) (by omega) (by omega) hcs3) ?_
      rintro _ h4 ⟨rfl, h4t, h4r⟩
      have e1 : x * 256 + y - 1 = 1600 * a + 40 * b + c := by omega
      rw [e1] at h4t
      have e2 : (1600 * a + 40 * b + c) / 1600 = a := by omega
      rw [e2] at h4t
      have e3 : 1600 * a + 40 * b + c - a * 1600 = 40 * b + c := by omega
      rw [e3] at h4t
      have e4 : (40 * b + c) / 40 = b := by omega
      rw [e4] at h4t
      have e5 : 40 * b + c - b * 40 = c := by omega
      rw [e5] at h4t
      have hlt4 : h.next < h4.next := by rw [h4r.1, hr3.1, hr.1]; exact hi.lt
      have hd4 := hd3.poke e h4r (Nat.le_refl _) hi.own
      have hown := hi.own
      simp -dsimp (disch := omega) only [go_sem, ↓reduceIte, Nat.reduceAdd, Nat.reduceSub, Nat.reduceMul, Nat.reduceLeDiff, Nat.reduceLT, Nat.reduceEqDiff, Nat.reduceBEq, Int.reduceEq, Int.reduceLT, Int.reduceLE, Int.reduceNeg, Int.reduceAdd, Int.reduceSub, Int.reduceMul, beq_self_eq_true, Nat.zero_add, gt_of r0, gt_of r1, gt_of r6]
      refine RunsC.loop (loop_rule 24000 (fun i rg h' => ∃ (j : Nat) (v : AV) (xs : List Nat) (sh : Nat) (t : List Nat), j + i = 3 ∧ InvY W data bs h.next h v0 3 a b c r total rg h' j (p + 2) v xs sh t)
        (Q := fun e rg h' => e = .exit 2 ∧ ∃ v xs sh t, InvY W data bs h.next h v0 3 a b c r total rg h' 3 (p + 2) v xs sh t) ?_ 3 _ _ _ (by omega) ⟨0, v, xs, sh, t, by omega, ⟨(by (try simp only [get_put, ↓reduceIte, Nat.reduceEqDiff]) <;> first | assumption | rfl), (by (try simp only [get_put, ↓reduceIte, Nat.reduceEqDiff]) <;> first | assumption | rfl), (by (try simp only [get_put, ↓reduceIte, Nat.reduceEqDiff]) <;> first | assumption | rfl), (by (try simp only [get_put, ↓reduceIte, Nat.reduceEqDiff]) <;> first | assumption | rfl), hd4, h4t, hown, hlt4, hpend, hal⟩⟩) ?_
      · clear hi r0 r1 r6 hxl
        rintro m i rg h' hm ⟨j, v, xs, sh, t, ji, hi⟩
        obtain ⟨m, rfl⟩ : ∃ n, m = n + 100 := ⟨m - 100, by omega⟩
        have r0 := hi.r0; have r1 := hi.r1; have r6 := hi.r6; have r11 := hi.r11
        have hxl : xs.length < 5000 := by have := hi.all; rw [← this, List.length_append] at ht; omega
        by_cases hj : j < 3
        · have hpd := hi.pend
          rw [drop_getD [a, b, c] j hj, List.cons_append] at hpd
          have hld := hi.three.ld j hj
          have hx40 := hpd.lt ([a, b, c].getD j 0) (by simp)
          generalize [a, b, c].getD j 0 = x at *
          have fin : ∀ (v' : AV) (h3 : AH) {h2 : AH} {cc : Nat} {t' : List Nat}, t = cc :: t' → Pend 3 0 t' (([a, b, c].drop (j + 1)) ++ r) → Dst W data bs h v0 h2 v (p + 2) 0 xs → Sl .u8 5 h3 v' (xs ++ [cc]) → h2.next ≤ h3.next → (∀ j, j < h2.next → ¬ Owns v j → T.get h3.objs j = T.get h2.objs j) → (∀ j, Owns v' j → Owns v j ∨ h2.next ≤ j) → Three h2 h.next a b c → h.next < h2.next → ¬ Owns v h.next →
              ∀ rg', T.get rg' 0 = some (.p bs 0) → T.get rg' 1 = some v' → T.get rg' 6 = some (.sl h.next 0 3 3) → T.get rg' 11 = some (.i .i64 ((j + 1 : Nat) : Int)) →
              RunsC (fun k => k .normal rg' h3) (Round (fun i rg h' => ∃ (j : Nat) (v : AV) (xs : List Nat) (sh : Nat) (t : List Nat), j + i = 3 ∧ InvY W data bs h.next h v0 3 a b c r total rg h' j (p + 2) v xs sh t) (fun e rg h' => e = .exit 2 ∧ ∃ v xs sh t, InvY W data bs h.next h v0 3 a b c r total rg h' 3 (p + 2) v xs sh t) i) := by
            intro v' h3 h2 cc t' et hp' d2 b1 b2 b3 b4 th lt2 ow rg' q0 q1 q6 q11
            exact RunsC.again (3 - (j + 1)) (by omega) ⟨j + 1, v', xs ++ [cc], 0, t', by omega, ⟨q0, q1, q6, q11, d2.push e b1 b2 b3 b4, th.keep (b3 _ lt2 ow), fun ho => by
              rcases b4 _ ho with h | h
              · exact ow h
              · omega, by omega, hp', by rw [List.append_assoc, ← hi.all, et]; rfl⟩⟩
          rcases hpd.step with ⟨_, m3, _⟩ | ⟨cc, t', rfl, hp', ⟨rfl, _, hbas⟩ | ⟨_, _, m3, _⟩⟩
          · exact absurd rfl m3
          · rcases bas3 hx40 hbas with ⟨ex, ec⟩ | ⟨ex, ec⟩ | ⟨ex, ec⟩ | ⟨ex, ec⟩ | ⟨ex, ex2, ec⟩ | ⟨ex, ec⟩
            · simp -dsimp (disch := omega) only [go_sem, ↓reduceIte, Nat.reduceAdd, Nat.reduceSub, Nat.reduceMul, Nat.reduceLeDiff, Nat.reduceLT, Nat.reduceEqDiff, Nat.reduceBEq, Int.reduceEq, Int.reduceLT, Int.reduceLE, Int.reduceNeg, Int.reduceAdd, Int.reduceSub, Int.reduceMul, beq_self_eq_true, Nat.zero_add, gt_of r0, gt_of r1, gt_of r6, gt_of r11, hld]
              refine RunsC.app (app1s hi.d.out 13 (by omega)) (by (try simp only [get_put, ↓reduceIte, Nat.reduceEqDiff]) <;> first | assumption | rfl) (by (try simp only [get_put, ↓reduceIte, Nat.reduceEqDiff]) <;> first | assumption | rfl) ?_
              rintro v' h2 ⟨b1, b2, b3, b4⟩
              rw [← ec] at b1
              simp -dsimp (disch := omega) only [go_sem, ↓reduceIte, Nat.reduceAdd, Nat.reduceSub, Nat.reduceMul, Nat.reduceLeDiff, Nat.reduceLT, Nat.reduceEqDiff, Nat.reduceBEq, Int.reduceEq, Int.reduceLT, Int.reduceLE, Int.reduceNeg, Int.reduceAdd, Int.reduceSub, Int.reduceMul, beq_self_eq_true, Nat.zero_add, gt_of r0, gt_of r1, gt_of r6, gt_of r11]
              exact fin v' h2 rfl hp' hi.d b1 b2 b3 b4 hi.three hi.lt hi.own _ (by (try simp only [get_put, ↓reduceIte, Nat.reduceEqDiff]) <;> first | assumption | rfl) (by (try simp only [get_put, ↓reduceIte, Nat.reduceEqDiff]) <;> first | assumption | rfl) (by (try simp only [get_put, ↓reduceIte, Nat.reduceEqDiff]) <;> first | assumption | rfl) (by (try simp only [get_put, ↓reduceIte, Nat.reduceEqDiff]) <;> first | assumption | rfl)
            · simp -dsimp (disch := omega) only [go_sem, ↓reduceIte, Nat.reduceAdd, Nat.reduceSub, Nat.reduceMul, Nat.reduceLeDiff, Nat.reduceLT, Nat.reduceEqDiff, Nat.reduceBEq, Int.reduceEq, Int.reduceLT, Int.reduceLE, Int.reduceNeg, Int.reduceAdd, Int.reduceSub, Int.reduceMul, beq_self_eq_true, Nat.zero_add, gt_of r0, gt_of r1, gt_of r6, gt_of r11, hld]
              refine RunsC.app (app1s hi.d.out 42 (by omega)) (by (try simp only [get_put, ↓reduceIte, Nat.reduceEqDiff]) <;> first | assumption | rfl) (by (try simp only [get_put, ↓reduceIte, Nat.reduceEqDiff]) <;> first | assumption | rfl) ?_
              rintro v' h2 ⟨b1, b2, b3, b4⟩
              rw [← ec] at b1
              simp -dsimp (disch := omega) only [go_sem, ↓reduceIte, Nat.reduceAdd, Nat.reduceSub, Nat.reduceMul, Nat.reduceLeDiff, Nat.reduceLT, Nat.reduceEqDiff, Nat.reduceBEq, Int.reduceEq, Int.reduceLT, Int.reduceLE, Int.reduceNeg, Int.reduceAdd, Int.reduceSub, Int.reduceMul, beq_self_eq_true, Nat.zero_add, gt_of r0, gt_of r1, gt_of r6, gt_of r11]
              exact fin v' h2 rfl hp' hi.d b1 b2 b3 b4 hi.three hi.lt hi.own _ (by (try simp only [get_put, ↓reduceIte, Nat.reduceEqDiff]) <;> first | assumption | rfl) (by (try simp only [get_put, ↓reduceIte, Nat.reduceEqDiff]) <;> first | assumption | rfl) (by (try simp only [get_put, ↓reduceIte, Nat.reduceEqDiff]) <;> first | assumption | rfl) (by (try simp only [get_put, ↓reduceIte, Nat.reduceEqDiff]) <;> first | assumption | rfl)
            · simp -dsimp (disch := omega) only [go_sem, ↓reduceIte, Nat.reduceAdd, Nat.reduceSub, Nat.reduceMul, Nat.reduceLeDiff, Nat.reduceLT, Nat.reduceEqDiff, Nat.reduceBEq, Int.reduceEq, Int.reduceLT, Int.reduceLE, Int.reduceNeg, Int.reduceAdd, Int.reduceSub, Int.reduceMul, beq_self_eq_true, Nat.zero_add, gt_of r0, gt_of r1, gt_of r6, gt_of r11, hld]
              refine RunsC.app (app1s hi.d.out 62 (by omega)) (by (try simp only [get_put, ↓reduceIte, Nat.reduceEqDiff]) <;> first | assumption | rfl) (by (try simp only [get_put, ↓reduceIte, Nat.reduceEqDiff]) <;> first | assumption | rfl) ?_
              rintro v' h2 ⟨b1, b2, b3, b4⟩
              rw [← ec] at b1
              simp -dsimp (disch := omega) only [go_sem, ↓reduceIte, Nat.reduceAdd, Nat.reduceSub, Nat.reduceMul, Nat.reduceLeDiff, Nat.reduceLT, Nat.reduceEqDiff, Nat.reduceBEq, Int.reduceEq, Int.reduceLT, Int.reduceLE, Int.reduceNeg, Int.reduceAdd, Int.reduceSub, Int.reduceMul, beq_self_eq_true, Nat.zero_add, gt_of r0, gt_of r1, gt_of r6, gt_of r11]
              exact fin v' h2 rfl hp' hi.d b1 b2 b3 b4 hi.three hi.lt hi.own _ (by (try simp only [get_put, ↓reduceIte, Nat.reduceEqDiff]) <;> first | assumption | rfl) (by (try simp only [get_put, ↓reduceIte, Nat.reduceEqDiff]) <;> first | assumption | rfl) (by (try simp only [get_put, ↓reduceIte, Nat.reduceEqDiff]) <;> first | assumption | rfl) (by (try simp only [get_put, ↓reduceIte, Nat.reduceEqDiff]) <;> first | assumption | rfl)
            · simp -dsimp (disch := omega) only [go_sem, ↓reduceIte, Nat.reduceAdd, Nat.reduceSub, Nat.reduceMul, Nat.reduceLeDiff, Nat.reduceLT, Nat.reduceEqDiff, Nat.reduceBEq, Int.reduceEq, Int.reduceLT, Int.reduceLE, Int.reduceNeg, Int.reduceAdd, Int.reduceSub, Int.reduceMul, beq_self_eq_true, Nat.zero_add, gt_of r0, gt_of r1, gt_of r6, gt_of r11, hld]
              refine RunsC.app (app1s hi.d.out 32 (by omega)) (by (try simp only [get_put, ↓reduceIte, Nat.reduceEqDiff]) <;> first | assumption | rfl) (by (try simp only [get_put, ↓reduceIte, Nat.reduceEqDiff]) <;> first | assumption | rfl) ?_
              rintro v' h2 ⟨b1, b2, b3, b4⟩
              rw [← ec] at b1
              simp -dsimp (disch := omega) only [go_sem, ↓reduceIte, Nat.reduceAdd, Nat.reduceSub, Nat.reduceMul, Nat.reduceLeDiff, Nat.reduceLT, Nat.reduceEqDiff, Nat.reduceBEq, Int.reduceEq, Int.reduceLT, Int.reduceLE, Int.reduceNeg, Int.reduceAdd, Int.reduceSub, Int.reduceMul, beq_self_eq_true, Nat.zero_add, gt_of r0, gt_of r1, gt_of r6, gt_of r11]
              exact fin v' h2 rfl hp' hi.d b1 b2 b3 b4 hi.three hi.lt hi.own _ (by (try simp only [get_put, ↓reduceIte, Nat.reduceEqDiff]) <;> first | assumption | rfl) (by (try simp only [get_put, ↓reduceIte, Nat.reduceEqDiff]) <;> first | assumption | rfl) (by (try simp only [get_put, ↓reduceIte, Nat.reduceEqDiff]) <;> first | assumption | rfl) (by (try simp only [get_put, ↓reduceIte, Nat.reduceEqDiff]) <;> first | assumption | rfl)
            · simp -dsimp (disch := omega) only [go_sem, ↓reduceIte, Nat.reduceAdd, Nat.reduceSub, Nat.reduceMul, Nat.reduceLeDiff, Nat.reduceLT, Nat.reduceEqDiff, Nat.reduceBEq, Int.reduceEq, Int.reduceLT, Int.reduceLE, Int.reduceNeg, Int.reduceAdd, Int.reduceSub, Int.reduceMul, beq_self_eq_true, Nat.zero_add, gt_of r0, gt_of r1, gt_of r6, gt_of r11, hld]
              refine RunsC.app (app1s hi.d.out _ (by omega)) (by (try simp only [get_put, ↓reduceIte, Nat.reduceEqDiff]) <;> first | assumption | rfl) (by (try simp only [get_put, ↓reduceIte, Nat.reduceEqDiff]) <;> first | assumption | rfl) ?_
              rintro v' h2 ⟨b1, b2, b3, b4⟩
              rw [← ec] at b1
              simp -dsimp (disch := omega) only [go_sem, ↓reduceIte, Nat.reduceAdd, Nat.reduceSub, Nat.reduceMul, Nat.reduceLeDiff, Nat.reduceLT, Nat.reduceEqDiff, Nat.reduceBEq, Int.reduceEq, Int.reduceLT, Int.reduceLE, Int.reduceNeg, Int.reduceAdd, Int.reduceSub, Int.reduceMul, beq_self_eq_true, Nat.zero_add, gt_of r0, gt_of r1, gt_of r6, gt_of r11]
              exact fin v' h2 rfl hp' hi.d b1 b2 b3 b4 hi.three hi.lt hi.own _ (by (try simp only [get_put, ↓reduceIte, Nat.reduceEqDiff]) <;> first | assumption | rfl) (by (try simp only [get_put, ↓reduceIte, Nat.reduceEqDiff]) <;> first | assumption | rfl) (by (try simp only [get_put, ↓reduceIte, Nat.reduceEqDiff]) <;> first | assumption | rfl) (by (try simp only [get_put, ↓reduceIte, Nat.reduceEqDiff]) <;> first | assumption | rfl)
            · simp -dsimp (disch := omega) only [go_sem, ↓reduceIte, Nat.reduceAdd, Nat.reduceSub, Nat.reduceMul, Nat.reduceLeDiff, Nat.reduceLT, Nat.reduceEqDiff, Nat.reduceBEq, Int.reduceEq, Int.reduceLT, Int.reduceLE, Int.reduceNeg, Int.reduceAdd, Int.reduceSub, Int.reduceMul, beq_self_eq_true, Nat.zero_add, gt_of r0, gt_of r1, gt_of r6, gt_of r11, hld]
              refine RunsC.app (app1s hi.d.out _ (by omega)) (by (try simp only [get_put, ↓reduceIte, Nat.reduceEqDiff]) <;> first | assumption | rfl) (by (try simp only [get_put, ↓reduceIte, Nat.reduceEqDiff]) <;> first | assumption | rfl) ?_
              rintro v' h2 ⟨b1, b2, b3, b4⟩
              rw [← ec] at b1
              simp -dsimp (disch := omega) only [go_sem, ↓reduceIte, Nat.reduceAdd, Nat.reduceSub, Nat.reduceMul, Nat.reduceLeDiff, Nat.reduceLT, Nat.reduceEqDiff, Nat.reduceBEq, Int.reduceEq, Int.reduceLT, Int.reduceLE, Int.reduceNeg, Int.reduceAdd, Int.reduceSub, Int.reduceMul, beq_self_eq_true, Nat.zero_add, gt_of r0, gt_of r1, gt_of r6, gt_of r11]
              exact fin v' h2 rfl hp' hi.d b1 b2 b3 b4 hi.three hi.lt hi.own _ (by (try simp only [get_put, ↓reduceIte, Nat.reduceEqDiff]) <;> first | assumption | rfl) (by (try simp only [get_put, ↓reduceIte, Nat.reduceEqDiff]) <;> first | assumption | rfl) (by (try simp only [get_put, ↓reduceIte, Nat.reduceEqDiff]) <;> first | assumption | rfl) (by (try simp only [get_put, ↓reduceIte, Nat.reduceEqDiff]) <;> first | assumption | rfl)
          · exact absurd rfl m3
        · obtain rfl : j = 3 := by omega
          simp -dsimp (disch := omega) only [go_sem, ↓reduceIte, Nat.reduceAdd, Nat.reduceSub, Nat.reduceMul, Nat.reduceLeDiff, Nat.reduceLT, Nat.reduceEqDiff, Nat.reduceBEq, Int.reduceEq, Int.reduceLT, Int.reduceLE, Int.reduceNeg, Int.reduceAdd, Int.reduceSub, Int.reduceMul, beq_self_eq_true, Nat.zero_add, gt_of r0, gt_of r1, gt_of r6, gt_of r11]
          exact RunsC.leave ⟨rfl, v, xs, sh, t, ⟨(by (try simp only [get_put, ↓reduceIte, Nat.reduceEqDiff]) <;> first | assumption | rfl), (by (try simp only [get_put, ↓reduceIte, Nat.reduceEqDiff]) <;> first | assumption | rfl), (by (try simp only [get_put, ↓reduceIte, Nat.reduceEqDiff]) <;> first | assumption | rfl), (by (try simp only [get_put, ↓reduceIte, Nat.reduceEqDiff]) <;> first | assumption | rfl), hi.d, hi.three, hi.own, hi.lt, hi.pend, hi.all⟩⟩
      · rintro _ rg h' ⟨rfl, v, xs, sh, t, hi⟩
        have r0 := hi.r0; have r1 := hi.r1; have r6 := hi.r6; have r11 := hi.r11
        simp -dsimp (disch := omega) only [go_sem, ↓reduceIte, Nat.reduceAdd, Nat.reduceSub, Nat.reduceMul, Nat.reduceLeDiff, Nat.reduceLT, Nat.reduceEqDiff, Nat.reduceBEq, Int.reduceEq, Int.reduceLT, Int.reduceLE, Int.reduceNeg, Int.reduceAdd, Int.reduceSub, Int.reduceMul, beq_self_eq_true, Nat.zero_add, gt_of r0, gt_of r1, gt_of r6, gt_of r11]
        obtain ⟨cs', hcs', _⟩ := hi.three
        refine RunsC.again r.length (by simp only [List.length_cons] at li; omega) ⟨p + 2, v, xs, sh, t, r, rfl, by simp only [pairs, List.length_cons] at pe; omega, ⟨(by (try simp only [get_put, ↓reduceIte, Nat.reduceEqDiff]) <;> first | assumption | rfl), (by (try simp only [get_put, ↓reduceIte, Nat.reduceEqDiff]) <;> first | assumption | rfl), (by (try simp only [get_put, ↓reduceIte, Nat.reduceEqDiff]) <;> first | assumption | rfl), hi.d, ⟨cs', hcs'⟩, hi.own, hi.lt, hi.pend, by simp only [List.length_cons] at hl3; omega, hdw2, hi.all⟩⟩
  · rintro _ rg h' ⟨rfl, p, v, r4, r5, h1, h2, hd'⟩
    simp -dsimp (disch := omega) only [go_sem, ↓reduceIte, Nat.reduceAdd, Nat.reduceSub, Nat.reduceMul, Nat.reduceLeDiff, Nat.reduceLT, Nat.reduceEqDiff, Nat.reduceBEq, Int.reduceEq, Int.reduceLT, Int.reduceLE, Int.reduceNeg, Int.reduceAdd, Int.reduceSub, Int.reduceMul, beq_self_eq_true, Nat.zero_add, gt_of r4, gt_of r5]
    exact Runs.ret ⟨p, v, rfl, h1, h2, hd'⟩
end Go.Proofs.YtcnallabiffemaaGreatDoor.Vm
