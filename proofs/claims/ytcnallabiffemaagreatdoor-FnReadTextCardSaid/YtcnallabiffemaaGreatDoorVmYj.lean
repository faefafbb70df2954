/- Sextets, read one by one, and EDIFACT: run with letters. Conditions: codewords with their characters. -/
import Derived.Test.YtcnallabiffemaaGreatDoorVmYg
set_option linter.unusedSimpArgs false
set_option linter.unusedVariables false
namespace Go.Proofs.YtcnallabiffemaaGreatDoor.Vm
open Go
attribute [local go_sem] br_dt br_df cl2 cl4 cl6
theorem go6_top : ∀ (L : List Nat) (acc cnt : Nat), (cnt = 2 ∨ cnt = 4 ∨ cnt = 6) → acc < 2 ^ cnt → (∀ x ∈ L, x < 64) → ∃ b t, go6 acc cnt L = b :: t ∧ b / 2 ^ (8 - cnt) = acc ∧ b < 256
  | [], acc, cnt, hc, ha, _ => by
    rcases hc with rfl | rfl | rfl
    · exact ⟨_, _, rfl, by simp at ha ⊢; omega, by omega⟩
    · exact ⟨_, _, rfl, by simp at ha ⊢; omega, by omega⟩
    · exact ⟨_, _, rfl, by simp at ha ⊢; omega, by omega⟩
  | x :: L, acc, cnt, hc, ha, hL => by
    have hx := hL x (by simp)
    rcases hc with rfl | rfl | rfl
    · exact ⟨_, _, rfl, by simp at ha ⊢; omega, by simp at ha ⊢; omega⟩
    · exact ⟨_, _, rfl, by simp at ha ⊢; omega, by simp at ha ⊢; omega⟩
    · exact ⟨_, _, rfl, by simp at ha ⊢; omega, by simp at ha ⊢; omega⟩
/-- A place within packed sextets. -/
structure Sx (W : List Nat) (p cnt acc : Nat) (L ws : List Nat) : Prop where
  c : cnt = 0 ∨ cnt = 2 ∨ cnt = 4 ∨ cnt = 6
  a : acc < 2 ^ cnt
  w : W.drop p = go6 acc cnt L ++ ws
  l : ∀ x ∈ L, x < 64
theorem read6 {m : Nat} {h : AH} {bs p cnt acc x : Nat} (cnt' : Nat) {data : AV} {W L ws : List Nat} (hm : 20000 ≤ m) (hb : Bits h bs data p cnt) (hd : Sl .u8 5 h data W) (hne : idOf data ≠ bs) (hW : W.length < 5000) (hlt : ∀ x ∈ W, x < 256) (hs : Sx W p cnt acc (x :: L) ws) (hws : 3 ≤ ws.length) (hn : cnt' = if cnt = 0 then 6 else cnt - 2) :
    Runs (fun k => cl Tryz.prog (exec Tryz.prog m) false 55 (.c (.p bs 0) (.c (.i .i64 6) .e)) h k ⟨⟩) fun v h' => v = .tu (.c (.i .i64 (x : Int)) (.c .ni .e)) ∧ ∃ p' acc', Sx W p' cnt' acc' L ws ∧ Bits h' bs data p' cnt' ∧ Read h h' bs := by
  have hx := hs.l x (by simp)
  have hL : ∀ x ∈ L, x < 64 := fun y hy => hs.l y (by simp [hy])
  have hw := hs.w
  have ha := hs.a
  have hlen := congrArg List.length hw
  rw [List.length_drop, List.length_append] at hlen
  rcases hs.c with rfl | rfl | rfl | rfl
  · obtain rfl : cnt' = 6 := hn
    obtain rfl : acc = 0 := by simp at ha; exact ha
    have e : go6 0 0 (x :: L) = go6 x 6 L := by rw [go6, if_neg (by omega)]; simp
    rw [e] at hw
    obtain ⟨b, t, g1, g2, g3⟩ := go6_top L x 6 (by omega) (by simp; omega) hL
    have hw' := hw
    rw [g1] at hw'
    obtain ⟨hp, hv, _⟩ := drop_c (x := b) (ws := t ++ ws) hw'
    refine (f55_60 hm hb hd hne hW (by omega) hlt).mono ?_
    rintro v h' ⟨rfl, b1, b2⟩
    rw [hv, show b / 4 = x from g2]
    exact ⟨rfl, p, x, ⟨by omega, by simp; omega, hw, hL⟩, b1, b2⟩
  · obtain rfl : cnt' = 0 := hn
    have e : go6 acc 2 (x :: L) = (acc * 64 + x) :: go6 0 0 L := by rw [go6, if_pos (by omega)]; simp [Nat.mod_one]
    rw [e] at hw
    obtain ⟨hp, hv, hw2⟩ := drop_c (x := acc * 64 + x) (ws := go6 0 0 L ++ ws) hw
    refine (f55_62 hm hb hd hne hW (by omega) hlt).mono ?_
    rintro v h' ⟨rfl, b1, b2⟩
    rw [hv, show (acc * 64 + x) % 64 = x by omega]
    exact ⟨rfl, p + 1, 0, ⟨by omega, by simp, hw2, hL⟩, b1, b2⟩
  · obtain rfl : cnt' = 2 := hn
    have e : go6 acc 4 (x :: L) = ((acc * 64 + x) / 4) :: go6 ((acc * 64 + x) % 4) 2 L := by rw [go6, if_pos (by omega)]
    rw [e] at hw
    obtain ⟨hp, hv, hw2⟩ := drop_c (x := (acc * 64 + x) / 4) (ws := go6 ((acc * 64 + x) % 4) 2 L ++ ws) hw
    obtain ⟨b, t, g1, g2, g3⟩ := go6_top L ((acc * 64 + x) % 4) 2 (by omega) (by simp; omega) hL
    have hw' := hw2
    rw [g1] at hw'
    obtain ⟨hp2, hv2, _⟩ := drop_c (x := b) (ws := t ++ ws) hw'
    refine (f55_64 hm hb hd hne hW (by omega) hlt).mono ?_
    rintro v h' ⟨rfl, b1, b2⟩
    have g2' : b / 64 = (acc * 64 + x) % 4 := g2
    rw [hv, hv2, g2', show (acc * 64 + x) / 4 % 16 * 4 + (acc * 64 + x) % 4 = x by omega]
    exact ⟨rfl, p + 1, _, ⟨by omega, by simp; omega, hw2, hL⟩, b1, b2⟩
  · obtain rfl : cnt' = 4 := hn
    have e : go6 acc 6 (x :: L) = ((acc * 64 + x) / 16) :: go6 ((acc * 64 + x) % 16) 4 L := by rw [go6, if_pos (by omega)]
    rw [e] at hw
    obtain ⟨hp, hv, hw2⟩ := drop_c (x := (acc * 64 + x) / 16) (ws := go6 ((acc * 64 + x) % 16) 4 L ++ ws) hw
    obtain ⟨b, t, g1, g2, g3⟩ := go6_top L ((acc * 64 + x) % 16) 4 (by omega) (by simp; omega) hL
    have hw' := hw2
    rw [g1] at hw'
    obtain ⟨hp2, hv2, _⟩ := drop_c (x := b) (ws := t ++ ws) hw'
    refine (f55_66 hm hb hd hne hW (by omega) hlt).mono ?_
    rintro v h' ⟨rfl, b1, b2⟩
    have g2' : b / 16 = (acc * 64 + x) % 16 := g2
    rw [hv, hv2, g2', show (acc * 64 + x) / 16 % 4 * 16 + (acc * 64 + x) % 16 = x by omega]
    exact ⟨rfl, p + 1, _, ⟨by omega, by simp; omega, hw2, hL⟩, b1, b2⟩
theorem all64 {P : Nat → Bool} (h : (List.range 64).all P = true) (a : Nat) (ha : a < 64) : P a = true := List.all_eq_true.1 h a (List.mem_range.2 ha)
theorem and32 (x : Nat) (hx : x < 64) : IntKind.i64.wrap (((BitVec.ofInt IntKind.i64.bits (x : Int) &&& BitVec.ofInt IntKind.i64.bits 32).toNat : Nat) : Int) = ((x / 32 * 32 : Nat) : Int) :=
  of_decide_eq_true (all64 (P := fun x => decide (IntKind.i64.wrap (((BitVec.ofInt IntKind.i64.bits (x : Int) &&& BitVec.ofInt IntKind.i64.bits 32).toNat : Nat) : Int) = ((x / 32 * 32 : Nat) : Int))) (by kernel_rfl) x hx)
theorem or64 (x : Nat) (hx : x < 64) : IntKind.i64.wrap (((BitVec.ofInt IntKind.i64.bits (x : Int) ||| BitVec.ofInt IntKind.i64.bits 64).toNat : Nat) : Int) = ((x + 64 : Nat) : Int) :=
  of_decide_eq_true (all64 (P := fun x => decide (IntKind.i64.wrap (((BitVec.ofInt IntKind.i64.bits (x : Int) ||| BitVec.ofInt IntKind.i64.bits 64).toNat : Nat) : Int) = ((x + 64 : Nat) : Int))) (by kernel_rfl) x hx)
structure InvG (W : List Nat) (data : AV) (bs : Nat) (h0 : AH) (v0 : AV) (total ws : List Nat) (rg : T AV) (h : AH) (p cnt acc : Nat) (v : AV) (xs t : List Nat) : Prop where
  r0 : T.get rg 0 = some (.p bs 0)
  r1 : T.get rg 1 = some v
  d : Dst W data bs h0 v0 h v p cnt xs
  s : Sx W p cnt acc (sext t) ws
  ok : okE t
  all : xs ++ t = total
set_option maxHeartbeats 4000000 in
set_option maxRecDepth 100000 in
theorem f38 {m : Nat} {h : AH} {W total xs0 u0 ws : List Nat} {data v0 : AV} {bs p0 : Nat} (hm : 40000 ≤ m)
    (e : Envd data bs h v0) (hW : W.length < 5000) (hlt : ∀ x ∈ W, x < 256) (hd : Dst W data bs h v0 h v0 p0 0 xs0) (hp : W.drop p0 = go6 0 0 (sext u0) ++ ws) (hok : okE u0) (hall : xs0 ++ u0 = total) (ht : total.length < 5000) (hws : 3 ≤ ws.length) :
    Runs (fun k => cl Tryz.prog (exec Tryz.prog m) false 38 (.c (.p bs 0) (.c v0 .e)) h k ⟨⟩) fun r h' => ∃ p, p ≤ W.length ∧ W.drop p = ws ∧ Dst W data bs h v0 h' r p 0 total := by
  obtain ⟨m, rfl⟩ : ∃ n, m = n + 100 := ⟨m - 100, by omega⟩
  refine Runs.of_eq (fun k => cl_in Tryz.func38 rfl (by kernel_rfl) Tryz.ntmps38 Tryz.results38 rfl rfl _ _ _ _ _ _) ?_
  simp -dsimp (disch := omega) only [go_sem, ↓reduceIte, Nat.reduceAdd, Nat.reduceSub, Nat.reduceMul, Nat.reduceLeDiff, Nat.reduceLT, Nat.reduceEqDiff, Nat.reduceBEq, Int.reduceEq, Int.reduceLT, Int.reduceLE, Int.reduceNeg, Int.reduceAdd, Int.reduceSub, Int.reduceMul, beq_self_eq_true, Nat.zero_add]
  have hu0 : u0.length < 5000 := by rw [← hall, List.length_append] at ht; omega
  have hsx : ∀ t : List Nat, ∀ x ∈ sext t, x < 64 := fun t x hx => by
    unfold sext at hx
    simp at hx
    omega
  refine Runs.loop (loop_rule 26000 (fun i rg h' => ∃ (p acc : Nat) (v : AV) (xs t : List Nat), t.length = i ∧ InvG W data bs h v0 total ws rg h' p 0 acc v xs t)
    (Q := fun e rg h' => e = .ret ∧ ∃ p v, T.get rg 4 = some v ∧ p ≤ W.length ∧ W.drop p = ws ∧ Dst W data bs h v0 h' v p 0 total) ?_ u0.length _ _ _ (by omega) ⟨p0, 0, v0, xs0, u0, rfl, ⟨(by (try simp only [get_put, ↓reduceIte, Nat.reduceEqDiff]) <;> first | assumption | rfl), (by (try simp only [get_put, ↓reduceIte, Nat.reduceEqDiff]) <;> first | assumption | rfl), hd, ⟨by omega, by simp, hp, hsx _⟩, hok, hall⟩⟩) ?_
  · rintro m i rg h' hm ⟨p, acc, v, xs, t, li, hi⟩
    obtain ⟨m, rfl⟩ : ∃ n, m = n + 100 := ⟨m - 100, by omega⟩
    have r0 := hi.r0; have r1 := hi.r1
    have hlw := congrArg List.length hi.s.w
    rw [List.length_drop, List.length_append] at hlw
    have hav : (0 : Int) < ((8 * (W.length - p) - 0 : Nat) : Int) := by omega
    have hav2 : ¬ ((8 * (W.length - p) - 0 : Nat) : Int) ≤ 16 := by omega
    have hok := hi.ok
    have hal := hi.all
    simp -dsimp (disch := omega) only [go_sem, ↓reduceIte, Nat.reduceAdd, Nat.reduceSub, Nat.reduceMul, Nat.reduceLeDiff, Nat.reduceLT, Nat.reduceEqDiff, Nat.reduceBEq, Int.reduceEq, Int.reduceLT, Int.reduceLE, Int.reduceNeg, Int.reduceAdd, Int.reduceSub, Int.reduceMul, beq_self_eq_true, Nat.zero_add, gt_of r0, gt_of r1, f33 hi.d.bits hi.d.data hW (by omega) (by omega) (by omega)]
    have hlen0 : t.length < 5000 := by rw [← hal, List.length_append] at ht; omega
    refine RunsC.loop (loop_rule 24000 (fun i rg h' => ∃ (j p cnt acc : Nat) (v : AV) (xs u : List Nat), j + i = 4 ∧ ((j = 0 ∧ cnt = 0) ∨ (j = 1 ∧ cnt = 6) ∨ (j = 2 ∧ cnt = 4) ∨ (j = 3 ∧ cnt = 2) ∨ (j = 4 ∧ cnt = 0)) ∧ u.length + j = t.length ∧ T.get rg 5 = some (.i .i64 (j : Int)) ∧ InvG W data bs h v0 total ws rg h' p cnt acc v xs u)
      (Q := fun e rg h' => (e = .exit 2 ∧ ∃ (p acc : Nat) (v : AV) (xs u : List Nat), u.length + 4 = t.length ∧ InvG W data bs h v0 total ws rg h' p 0 acc v xs u) ∨ (e = .ret ∧ ∃ p v, T.get rg 4 = some v ∧ p ≤ W.length ∧ W.drop p = ws ∧ Dst W data bs h v0 h' v p 0 total)) ?_ 4 _ _ _ (by omega)
      ⟨0, p, 0, acc, v, xs, t, by omega, by omega, by omega, (by (try simp only [get_put, ↓reduceIte, Nat.reduceEqDiff]) <;> first | assumption | rfl), ⟨(by (try simp only [get_put, ↓reduceIte, Nat.reduceEqDiff]) <;> first | assumption | rfl), (by (try simp only [get_put, ↓reduceIte, Nat.reduceEqDiff]) <;> first | assumption | rfl), hi.d, hi.s, hi.ok, hi.all⟩⟩) ?_
    · clear hi r0 r1 hlw hav hav2 hok hal
      rintro m i rg h' hm ⟨j, p, cnt, acc, v, xs, u, ji, hj, hu, r5, hi⟩
      obtain ⟨m, rfl⟩ : ∃ n, m = n + 100 := ⟨m - 100, by omega⟩
      have r0 := hi.r0; have r1 := hi.r1
      have hxl : xs.length < 5000 := by have := hi.all; rw [← this, List.length_append] at ht; omega
      have hal := hi.all
      have hok := hi.ok
      have hlw := congrArg List.length hi.s.w
      rw [List.length_drop, List.length_append] at hlw
      by_cases hj4 : j = 4
      · subst hj4
        obtain rfl : cnt = 0 := by omega
        simp -dsimp (disch := omega) only [go_sem, ↓reduceIte, Nat.reduceAdd, Nat.reduceSub, Nat.reduceMul, Nat.reduceLeDiff, Nat.reduceLT, Nat.reduceEqDiff, Nat.reduceBEq, Int.reduceEq, Int.reduceLT, Int.reduceLE, Int.reduceNeg, Int.reduceAdd, Int.reduceSub, Int.reduceMul, beq_self_eq_true, Nat.zero_add, gt_of r0, gt_of r1, gt_of r5]
        exact RunsC.leave (.inl ⟨rfl, p, acc, v, xs, u, hu, ⟨(by (try simp only [get_put, ↓reduceIte, Nat.reduceEqDiff]) <;> first | assumption | rfl), (by (try simp only [get_put, ↓reduceIte, Nat.reduceEqDiff]) <;> first | assumption | rfl), hi.d, hi.s, hi.ok, hi.all⟩⟩)
      · simp -dsimp (disch := omega) only [go_sem, ↓reduceIte, Nat.reduceAdd, Nat.reduceSub, Nat.reduceMul, Nat.reduceLeDiff, Nat.reduceLT, Nat.reduceEqDiff, Nat.reduceBEq, Int.reduceEq, Int.reduceLT, Int.reduceLE, Int.reduceNeg, Int.reduceAdd, Int.reduceSub, Int.reduceMul, beq_self_eq_true, Nat.zero_add, gt_of r0, gt_of r1, gt_of r5]
        have hsx' := hi.s
        cases u with
        | nil =>
          have hfin : ∀ (h2 : AH) (p' acc' cnt' : Nat), Dst W data bs h v0 h2 v p' cnt' xs → Sx W p' cnt' acc' [] ws → (cnt' = 0 → W.drop p' = ws ∧ p' ≤ W.length) ∧ (0 < cnt' → p' < W.length ∧ W.drop (p' + 1) = ws) := by
            intro h2 p' acc' cnt' _ hs
            have hw := hs.w
            refine ⟨fun h0 => ?_, fun h0 => ?_⟩
            · subst h0
              rw [go6, if_neg (by omega), List.nil_append] at hw
              refine ⟨hw, ?_⟩
              have := congrArg List.length hw
              rw [List.length_drop] at this
              omega
            · rw [go6, if_pos h0] at hw
              obtain ⟨a, _, b⟩ := drop_c (x := acc' * 2 ^ (8 - cnt') % 256) (ws := ws) hw
              exact ⟨a, b⟩
          have htot : xs = total := by rw [← hal]; simp
          rcases hj with ⟨rfl, rfl⟩ | ⟨rfl, rfl⟩ | ⟨rfl, rfl⟩ | ⟨rfl, rfl⟩ | ⟨rfl, rfl⟩
          · refine RunsC.bind (read6 6 (x := 31) (L := []) (by omega) hi.d.bits hi.d.data e.ne hW hlt hsx' hws rfl) ?_
            rintro _ h2 ⟨rfl, p', acc', s1, s2, s3⟩
            have hd2 := hi.d.read e s2 s3
            obtain ⟨q1, q2⟩ := (hfin h2 p' acc' 6 hd2 s1).2 (by omega)
            simp -dsimp (disch := omega) only [go_sem, ↓reduceIte, Nat.reduceAdd, Nat.reduceSub, Nat.reduceMul, Nat.reduceLeDiff, Nat.reduceLT, Nat.reduceEqDiff, Nat.reduceBEq, Int.reduceEq, Int.reduceLT, Int.reduceLE, Int.reduceNeg, Int.reduceAdd, Int.reduceSub, Int.reduceMul, beq_self_eq_true, Nat.zero_add, gt_of r0, gt_of r1, gt_of r5, f63 s2]
            refine RunsC.bind (f55_26 (by omega) hd2.bits hd2.data e.ne hW (by omega) hlt) ?_
            rintro _ h3 ⟨rfl, w2, w3⟩
            have hd3 := hd2.read e w2 w3
            simp -dsimp (disch := omega) only [go_sem, ↓reduceIte, Nat.reduceAdd, Nat.reduceSub, Nat.reduceMul, Nat.reduceLeDiff, Nat.reduceLT, Nat.reduceEqDiff, Nat.reduceBEq, Int.reduceEq, Int.reduceLT, Int.reduceLE, Int.reduceNeg, Int.reduceAdd, Int.reduceSub, Int.reduceMul, beq_self_eq_true, Nat.zero_add, gt_of r0, gt_of r1, gt_of r5]
            rw [htot] at hd3
            exact RunsC.back (.inr ⟨rfl, p' + 1, v, (by (try simp only [get_put, ↓reduceIte, Nat.reduceEqDiff]) <;> first | assumption | rfl), by omega, q2, hd3⟩)
          · refine RunsC.bind (read6 4 (x := 31) (L := []) (by omega) hi.d.bits hi.d.data e.ne hW hlt hsx' hws rfl) ?_
            rintro _ h2 ⟨rfl, p', acc', s1, s2, s3⟩
            have hd2 := hi.d.read e s2 s3
            obtain ⟨q1, q2⟩ := (hfin h2 p' acc' 4 hd2 s1).2 (by omega)
            simp -dsimp (disch := omega) only [go_sem, ↓reduceIte, Nat.reduceAdd, Nat.reduceSub, Nat.reduceMul, Nat.reduceLeDiff, Nat.reduceLT, Nat.reduceEqDiff, Nat.reduceBEq, Int.reduceEq, Int.reduceLT, Int.reduceLE, Int.reduceNeg, Int.reduceAdd, Int.reduceSub, Int.reduceMul, beq_self_eq_true, Nat.zero_add, gt_of r0, gt_of r1, gt_of r5, f63 s2]
            refine RunsC.bind (f55_44 (by omega) hd2.bits hd2.data e.ne hW (by omega) hlt) ?_
            rintro _ h3 ⟨rfl, w2, w3⟩
            have hd3 := hd2.read e w2 w3
            simp -dsimp (disch := omega) only [go_sem, ↓reduceIte, Nat.reduceAdd, Nat.reduceSub, Nat.reduceMul, Nat.reduceLeDiff, Nat.reduceLT, Nat.reduceEqDiff, Nat.reduceBEq, Int.reduceEq, Int.reduceLT, Int.reduceLE, Int.reduceNeg, Int.reduceAdd, Int.reduceSub, Int.reduceMul, beq_self_eq_true, Nat.zero_add, gt_of r0, gt_of r1, gt_of r5]
            rw [htot] at hd3
            exact RunsC.back (.inr ⟨rfl, p' + 1, v, (by (try simp only [get_put, ↓reduceIte, Nat.reduceEqDiff]) <;> first | assumption | rfl), by omega, q2, hd3⟩)
          · refine RunsC.bind (read6 2 (x := 31) (L := []) (by omega) hi.d.bits hi.d.data e.ne hW hlt hsx' hws rfl) ?_
            rintro _ h2 ⟨rfl, p', acc', s1, s2, s3⟩
            have hd2 := hi.d.read e s2 s3
            obtain ⟨q1, q2⟩ := (hfin h2 p' acc' 2 hd2 s1).2 (by omega)
            simp -dsimp (disch := omega) only [go_sem, ↓reduceIte, Nat.reduceAdd, Nat.reduceSub, Nat.reduceMul, Nat.reduceLeDiff, Nat.reduceLT, Nat.reduceEqDiff, Nat.reduceBEq, Int.reduceEq, Int.reduceLT, Int.reduceLE, Int.reduceNeg, Int.reduceAdd, Int.reduceSub, Int.reduceMul, beq_self_eq_true, Nat.zero_add, gt_of r0, gt_of r1, gt_of r5, f63 s2]
            refine RunsC.bind (f55_62 (by omega) hd2.bits hd2.data e.ne hW (by omega) hlt) ?_
            rintro _ h3 ⟨rfl, w2, w3⟩
            have hd3 := hd2.read e w2 w3
            simp -dsimp (disch := omega) only [go_sem, ↓reduceIte, Nat.reduceAdd, Nat.reduceSub, Nat.reduceMul, Nat.reduceLeDiff, Nat.reduceLT, Nat.reduceEqDiff, Nat.reduceBEq, Int.reduceEq, Int.reduceLT, Int.reduceLE, Int.reduceNeg, Int.reduceAdd, Int.reduceSub, Int.reduceMul, beq_self_eq_true, Nat.zero_add, gt_of r0, gt_of r1, gt_of r5]
            rw [htot] at hd3
            exact RunsC.back (.inr ⟨rfl, p' + 1, v, (by (try simp only [get_put, ↓reduceIte, Nat.reduceEqDiff]) <;> first | assumption | rfl), by omega, q2, hd3⟩)
          · refine RunsC.bind (read6 0 (x := 31) (L := []) (by omega) hi.d.bits hi.d.data e.ne hW hlt hsx' hws rfl) ?_
            rintro _ h2 ⟨rfl, p', acc', s1, s2, s3⟩
            have hd2 := hi.d.read e s2 s3
            obtain ⟨q1, q2⟩ := (hfin h2 p' acc' 0 hd2 s1).1 rfl
            simp -dsimp (disch := omega) only [go_sem, ↓reduceIte, Nat.reduceAdd, Nat.reduceSub, Nat.reduceMul, Nat.reduceLeDiff, Nat.reduceLT, Nat.reduceEqDiff, Nat.reduceBEq, Int.reduceEq, Int.reduceLT, Int.reduceLE, Int.reduceNeg, Int.reduceAdd, Int.reduceSub, Int.reduceMul, beq_self_eq_true, Nat.zero_add, gt_of r0, gt_of r1, gt_of r5, f63 s2]
            rw [htot] at hd2
            exact RunsC.back (.inr ⟨rfl, p', v, (by (try simp only [get_put, ↓reduceIte, Nat.reduceEqDiff]) <;> first | assumption | rfl), q2, q1, hd2⟩)
          · exact absurd rfl hj4
        | cons c u =>
          have hc := hok c (by simp)
          have hoku : okE u := fun x hx => hok x (by simp [hx])
          have hcnt : ∃ cnt', cnt' = (if cnt = 0 then 6 else cnt - 2) ∧ ((j + 1 = 1 ∧ cnt' = 6) ∨ (j + 1 = 2 ∧ cnt' = 4) ∨ (j + 1 = 3 ∧ cnt' = 2) ∨ (j + 1 = 4 ∧ cnt' = 0)) := by
            rcases hj with ⟨rfl, rfl⟩ | ⟨rfl, rfl⟩ | ⟨rfl, rfl⟩ | ⟨rfl, rfl⟩ | ⟨rfl, rfl⟩
            · exact ⟨6, rfl, by omega⟩
            · exact ⟨4, rfl, by omega⟩
            · exact ⟨2, rfl, by omega⟩
            · exact ⟨0, rfl, by omega⟩
            · exact absurd rfl hj4
          obtain ⟨cnt', hn, hj'⟩ := hcnt
          refine RunsC.bind (read6 cnt' (x := c % 64) (L := sext u) (by omega) hi.d.bits hi.d.data e.ne hW hlt hsx' hws hn) ?_
          rintro _ h2 ⟨rfl, p', acc', s1, s2, s3⟩
          have hd2 := hi.d.read e s2 s3
          have hx64 : c % 64 < 64 := by omega
          have hx31 : ¬ ((c % 64 : Nat) : Int) = 31 := by omega
          by_cases c64 : c < 64
          · simp -dsimp (disch := omega) only [go_sem, ↓reduceIte, Nat.reduceAdd, Nat.reduceSub, Nat.reduceMul, Nat.reduceLeDiff, Nat.reduceLT, Nat.reduceEqDiff, Nat.reduceBEq, Int.reduceEq, Int.reduceLT, Int.reduceLE, Int.reduceNeg, Int.reduceAdd, Int.reduceSub, Int.reduceMul, beq_self_eq_true, Nat.zero_add, gt_of r0, gt_of r1, gt_of r5, and32 _ hx64, or64 _ hx64, hx31]
            refine RunsC.app (app1s hd2.out _ (by omega)) (by (try simp only [get_put, ↓reduceIte, Nat.reduceEqDiff]) <;> first | assumption | rfl) (by (try simp only [get_put, ↓reduceIte, Nat.reduceEqDiff]) <;> first | assumption | rfl) ?_
            rintro v' h3 ⟨b1, b2, b3, b4⟩
            have hd3 := hd2.push e b1 b2 b3 b4
            rw [show c % 64 = c by omega] at hd3
            simp -dsimp (disch := omega) only [go_sem, ↓reduceIte, Nat.reduceAdd, Nat.reduceSub, Nat.reduceMul, Nat.reduceLeDiff, Nat.reduceLT, Nat.reduceEqDiff, Nat.reduceBEq, Int.reduceEq, Int.reduceLT, Int.reduceLE, Int.reduceNeg, Int.reduceAdd, Int.reduceSub, Int.reduceMul, beq_self_eq_true, Nat.zero_add, gt_of r0, gt_of r1, gt_of r5]
            exact RunsC.again (4 - (j + 1)) (by omega) ⟨j + 1, p', cnt', acc', v', xs ++ [c], u, by omega, by omega, by simp only [List.length_cons] at hu; omega, (by (try simp only [get_put, ↓reduceIte, Nat.reduceEqDiff]) <;> first | assumption | rfl), ⟨(by (try simp only [get_put, ↓reduceIte, Nat.reduceEqDiff]) <;> first | assumption | rfl), (by (try simp only [get_put, ↓reduceIte, Nat.reduceEqDiff]) <;> first | assumption | rfl), hd3, s1, hoku, by rw [List.append_assoc]; exact hal⟩⟩
          · simp -dsimp (disch := omega) only [go_sem, ↓reduceIte, Nat.reduceAdd, Nat.reduceSub, Nat.reduceMul, Nat.reduceLeDiff, Nat.reduceLT, Nat.reduceEqDiff, Nat.reduceBEq, Int.reduceEq, Int.reduceLT, Int.reduceLE, Int.reduceNeg, Int.reduceAdd, Int.reduceSub, Int.reduceMul, beq_self_eq_true, Nat.zero_add, gt_of r0, gt_of r1, gt_of r5, and32 _ hx64, or64 _ hx64, hx31]
            refine RunsC.app (app1s hd2.out _ (by omega)) (by (try simp only [get_put, ↓reduceIte, Nat.reduceEqDiff]) <;> first | assumption | rfl) (by (try simp only [get_put, ↓reduceIte, Nat.reduceEqDiff]) <;> first | assumption | rfl) ?_
            rintro v' h3 ⟨b1, b2, b3, b4⟩
            have hd3 := hd2.push e b1 b2 b3 b4
            rw [show c % 64 + 64 = c by omega] at hd3
            simp -dsimp (disch := omega) only [go_sem, ↓reduceIte, Nat.reduceAdd, Nat.reduceSub, Nat.reduceMul, Nat.reduceLeDiff, Nat.reduceLT, Nat.reduceEqDiff, Nat.reduceBEq, Int.reduceEq, Int.reduceLT, Int.reduceLE, Int.reduceNeg, Int.reduceAdd, Int.reduceSub, Int.reduceMul, beq_self_eq_true, Nat.zero_add, gt_of r0, gt_of r1, gt_of r5]
            exact RunsC.again (4 - (j + 1)) (by omega) ⟨j + 1, p', cnt', acc', v', xs ++ [c], u, by omega, by omega, by simp only [List.length_cons] at hu; omega, (by (try simp only [get_put, ↓reduceIte, Nat.reduceEqDiff]) <;> first | assumption | rfl), ⟨(by (try simp only [get_put, ↓reduceIte, Nat.reduceEqDiff]) <;> first | assumption | rfl), (by (try simp only [get_put, ↓reduceIte, Nat.reduceEqDiff]) <;> first | assumption | rfl), hd3, s1, hoku, by rw [List.append_assoc]; exact hal⟩⟩
    · rintro _ rg h' (⟨rfl, p, acc, v, xs, u, hu, hi⟩ | ⟨rfl, p, v, r4, h1, h2, hd'⟩)
      · have r0 := hi.r0; have r1 := hi.r1
        simp -dsimp (disch := omega) only [go_sem, ↓reduceIte, Nat.reduceAdd, Nat.reduceSub, Nat.reduceMul, Nat.reduceLeDiff, Nat.reduceLT, Nat.reduceEqDiff, Nat.reduceBEq, Int.reduceEq, Int.reduceLT, Int.reduceLE, Int.reduceNeg, Int.reduceAdd, Int.reduceSub, Int.reduceMul, beq_self_eq_true, Nat.zero_add, gt_of r0, gt_of r1]
        exact RunsC.again u.length (by omega) ⟨p, acc, v, xs, u, rfl, hi⟩
      · simp -dsimp (disch := omega) only [go_sem, ↓reduceIte, Nat.reduceAdd, Nat.reduceSub, Nat.reduceMul, Nat.reduceLeDiff, Nat.reduceLT, Nat.reduceEqDiff, Nat.reduceBEq, Int.reduceEq, Int.reduceLT, Int.reduceLE, Int.reduceNeg, Int.reduceAdd, Int.reduceSub, Int.reduceMul, beq_self_eq_true, Nat.zero_add, gt_of r4]
        exact RunsC.back ⟨rfl, p, v, r4, h1, h2, hd'⟩
  · rintro _ rg h' ⟨rfl, p, v, r4, h1, h2, hd'⟩
    simp -dsimp (disch := omega) only [go_sem, ↓reduceIte, Nat.reduceAdd, Nat.reduceSub, Nat.reduceMul, Nat.reduceLeDiff, Nat.reduceLT, Nat.reduceEqDiff, Nat.reduceBEq, Int.reduceEq, Int.reduceLT, Int.reduceLE, Int.reduceNeg, Int.reduceAdd, Int.reduceSub, Int.reduceMul, beq_self_eq_true, Nat.zero_add, gt_of r4]
    exact Runs.ret ⟨p, h1, h2, hd'⟩
end Go.Proofs.YtcnallabiffemaaGreatDoor.Vm
