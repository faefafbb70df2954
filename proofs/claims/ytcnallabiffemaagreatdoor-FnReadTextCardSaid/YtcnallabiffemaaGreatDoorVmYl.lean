/- Bytes, read and put right: run with letters. Conditions: one to twenty characters below 128. -/
import Derived.Test.YtcnallabiffemaaGreatDoorVmYk
set_option linter.unusedSimpArgs false
set_option linter.unusedVariables false
namespace Go.Proofs.YtcnallabiffemaaGreatDoor.Vm
open Go
attribute [local go_sem] br_dt br_df mkW_n kn_i sto_put
theorem in_lit1_34 (nt : Nat) (rg : T AV) (h : AH) (dst : Option Tmp) (kk : T AV → AH → R) (x : Operand) : wBuild Tryz.prog nt rg h dst kk 34 1 #[(0, x)] = oe rg x fun v => sv v (fun v => chk (scalar v) (setR nt rg dst (.sl h.next 0 1 1) fun rg => kk rg ⟨T.put h.objs h.next (.cells 42 1 (T.put (T.full (some .ns) depthC) 0 v)), h.next + 1⟩) ⟨⟩) ⟨⟩ := wBuild_1 _ _ _ _ _ _ _ _ _ _ ty_el34 ty_one42 ty_z42
attribute [local go_sem ↓] in_lit1_34
theorem unrz_rz (x p : Nat) (hx : x < 256) : unrz ((x + rand p 255) % 256) p = x := by
  have := rand_le p 255 (by omega)
  unfold unrz
  split <;> omega
set_option maxHeartbeats 4000000 in
set_option maxRecDepth 100000 in
theorem f39 {m : Nat} {h : AH} {W xs0 u ws : List Nat} {data v0 v2 : AV} {bs p0 k2 : Nat} (hm : 40000 ≤ m)
    (e : Envd data bs h v0) (hW : W.length < 5000) (hlt : ∀ x ∈ W, x < 256) (hd : Dst W data bs h v0 h v0 p0 0 xs0) (hv2 : SlV h v2 k2) (hseg : ∀ j, Owns v2 j → j ≠ bs ∧ ¬ Owns v0 j ∧ ¬ Owns data j) (hk2 : k2 < 5000)
    (hp : W.drop p0 = rz (p0 + 1) (hdr u.length ++ u) ++ ws) (hu : u.length ≤ 20) (hu0 : u ≠ []) (hul : ∀ x ∈ u, x < 128) (hx0 : xs0.length < 5000) (hws : 3 ≤ ws.length) :
    Runs (fun k => cl Tryz.prog (exec Tryz.prog m) false 39 (.c (.p bs 0) (.c v0 (.c v2 .e))) h k ⟨⟩) fun r h' => ∃ (p : Nat) (v' v2' : AV) (k' : Nat), r = .tu (.c v' (.c v2' (.c .ni .e))) ∧ W.drop p = ws ∧ p = p0 + (rz (p0 + 1) (hdr u.length ++ u)).length ∧ p ≤ W.length ∧ Bits h' bs data p 0 ∧ Sl .u8 5 h' data W ∧
      Sl .u8 5 h' v' (xs0 ++ u) ∧ SlV h' v2' k' ∧ k' ≤ k2 + 1 ∧ h.next ≤ h'.next ∧ (∀ j, j < h.next → j ≠ bs → ¬ Owns v0 j → ¬ Owns v2 j → T.get h'.objs j = T.get h.objs j) ∧ (∀ j, Owns v' j → Owns v0 j ∨ h.next ≤ j) ∧ (∀ j, Owns v2' j → Owns v2 j ∨ h.next ≤ j) ∧ ∀ j, Owns v' j → ¬ Owns v2' j := by
  have hn0 : 0 < u.length := by cases u with
    | nil => exact absurd rfl hu0
    | cons a l => simp
  have hh : hdr u.length = [u.length] := by unfold hdr; rw [if_neg (by omega)]
  rw [hh] at hp ⊢
  have hpl := congrArg List.length hp
  rw [List.length_drop, List.length_append, rz_len, List.length_append, List.length_singleton] at hpl
  obtain ⟨hp1, hx, hdw⟩ := drop_c (x := (u.length + rand (p0 + 1) 255) % 256) (ws := rz (p0 + 2) u ++ ws) hp
  obtain ⟨m, rfl⟩ : ∃ n, m = n + 100 := ⟨m - 100, by omega⟩
  refine Runs.of_eq (fun k => cl_in Tryz.func39 rfl (by kernel_rfl) Tryz.ntmps39 Tryz.results39 rfl rfl _ _ _ _ _ _) ?_
  simp -dsimp (disch := omega) only [go_sem, ↓reduceIte, Nat.reduceAdd, Nat.reduceSub, Nat.reduceMul, Nat.reduceLeDiff, Nat.reduceLT, Nat.reduceEqDiff, Nat.reduceBEq, Int.reduceEq, Int.reduceLT, Int.reduceLE, Int.reduceNeg, Int.reduceAdd, Int.reduceSub, Int.reduceMul, beq_self_eq_true, Nat.zero_add, f64 hd.bits]
  refine Runs.bind (f55_80 (by omega) hd.bits hd.data e.ne hW (by omega) hlt) ?_
  rintro _ h2 ⟨rfl, hb, hr⟩
  have hd2 := hd.read e hb hr
  have hx256 := mem_lt (by omega) hlt p0
  have hun : unrz (W.getD p0 0) (1 + p0) = u.length := by rw [hx, Nat.add_comm 1 p0]; exact unrz_rz _ _ (by omega)
  generalize W.getD p0 0 = x at *
  simp -dsimp (disch := omega) only [go_sem, ↓reduceIte, Nat.reduceAdd, Nat.reduceSub, Nat.reduceMul, Nat.reduceLeDiff, Nat.reduceLT, Nat.reduceEqDiff, Nat.reduceBEq, Int.reduceEq, Int.reduceLT, Int.reduceLE, Int.reduceNeg, Int.reduceAdd, Int.reduceSub, Int.reduceMul, beq_self_eq_true, Nat.zero_add, f65 hx256 (show 1 + p0 < 100000 by omega), hun]
  have hnb : h2.next ≠ bs := by have := e.blt; have := hr.1; omega
  have hnv : ¬ Owns v0 h2.next := fun ho => absurd (hd2.out.lt ho) (Nat.lt_irrefl _)
  have hn2 : h.next ≤ h2.next := by rw [hr.1]; exact Nat.le_refl _
  refine Runs.loop (loop_rule 24000 (fun i rg h' => ∃ (j p : Nat) (c : T AV), j + i = u.length ∧ p = p0 + 1 + j ∧ T.get rg 0 = some (.p bs 0) ∧ T.get rg 1 = some v0 ∧ T.get rg 2 = some v2 ∧ T.get rg 9 = some (.i .i64 ((p + 1 : Nat) : Int)) ∧ T.get rg 13 = some (.i .i64 (u.length : Int)) ∧ T.get rg 16 = some (.sl h2.next 0 u.length u.length) ∧ T.get rg 17 = some (.i .i64 (j : Int)) ∧
        Dst W data bs h v0 h' v0 p 0 xs0 ∧ T.get h'.objs h2.next = some (.cells 5 u.length c) ∧ (∀ i, i < j → T.get c i = some (.i .u8 (u.getD i 0 : Int))) ∧ W.drop p = rz (p + 1) (u.drop j) ++ ws ∧ h2.next < h'.next)
      (Q := fun e rg h' => e = .exit 0 ∧ ∃ (c : T AV), T.get rg 1 = some v0 ∧ T.get rg 2 = some v2 ∧ T.get rg 16 = some (.sl h2.next 0 u.length u.length) ∧ Dst W data bs h v0 h' v0 (p0 + 1 + u.length) 0 xs0 ∧ T.get h'.objs h2.next = some (.cells 5 u.length c) ∧ Has .u8 c u ∧ W.drop (p0 + 1 + u.length) = ws ∧ h2.next < h'.next) ?_ u.length _ _ _ (by omega)
      ⟨0, p0 + 1, T.full (some (.i .u8 0)) depthC, by omega, by omega, (by (try simp only [get_put, ↓reduceIte, Nat.reduceEqDiff]) <;> first | assumption | rfl), (by (try simp only [get_put, ↓reduceIte, Nat.reduceEqDiff]) <;> first | assumption | rfl), (by (try simp only [get_put, ↓reduceIte, Nat.reduceEqDiff]) <;> first | assumption | rfl), ?_, (by (try simp only [get_put, ↓reduceIte, Nat.reduceEqDiff]) <;> first | assumption | rfl), (by (try simp only [get_put, ↓reduceIte, Nat.reduceEqDiff]) <;> first | assumption | rfl), (by (try simp only [get_put, ↓reduceIte, Nat.reduceEqDiff]) <;> first | assumption | rfl), hd2.same e (Same.new _ _ _), by simp only [get_put, if_true], by omega, by rw [List.drop_zero]; exact hdw, Nat.lt_succ_self _⟩) ?_
  · rintro m i rg h' hm ⟨j, p, c, ji, pe, r0, r1, r2, r9, r13, r16, r17, d, hc, hcj, hw, hlt2⟩
    obtain ⟨m, rfl⟩ : ∃ n, m = n + 100 := ⟨m - 100, by omega⟩
    by_cases hj : j < u.length
    · have hpl2 := congrArg List.length hw
      rw [List.length_drop, List.length_append, rz_len, List.length_drop] at hpl2
      rw [drop_getD u j hj, rz] at hw
      obtain ⟨hp3, hx3, hdw3⟩ := drop_c (x := (u.getD j 0 + rand (p + 1) 255) % 256) (ws := rz (p + 1 + 1) (u.drop (j + 1)) ++ ws) hw
      have hav : ¬ ((8 * (W.length - p) - 0 : Nat) : Int) < 8 := by omega
      have huj := mem_lt (by omega) hul j
      simp -dsimp (disch := omega) only [go_sem, ↓reduceIte, Nat.reduceAdd, Nat.reduceSub, Nat.reduceMul, Nat.reduceLeDiff, Nat.reduceLT, Nat.reduceEqDiff, Nat.reduceBEq, Int.reduceEq, Int.reduceLT, Int.reduceLE, Int.reduceNeg, Int.reduceAdd, Int.reduceSub, Int.reduceMul, beq_self_eq_true, Nat.zero_add, gt_of r0, gt_of r1, gt_of r2, gt_of r9, gt_of r13, gt_of r16, gt_of r17, f33 d.bits d.data hW (by omega) (by omega) (by omega)]
      refine RunsC.bind (f55_80 (by omega) d.bits d.data e.ne hW (by omega) hlt) ?_
      rintro _ h3 ⟨rfl, b3, r3⟩
      have d3 := d.read e b3 r3
      have hy256 := mem_lt (by omega) hlt p
      have hun3 : unrz (W.getD p 0) (p + 1) = u.getD j 0 := by rw [hx3]; exact unrz_rz _ _ (by omega)
      generalize W.getD p 0 = y at *
      have hc3 : T.get h3.objs h2.next = some (.cells 5 u.length c) := by rw [r3.2 _ hnb, hc]
      have hst := sto_of hc3
      generalize hU : u.getD j 0 = uj at *
      simp -dsimp (disch := omega) only [go_sem, ↓reduceIte, Nat.reduceAdd, Nat.reduceSub, Nat.reduceMul, Nat.reduceLeDiff, Nat.reduceLT, Nat.reduceEqDiff, Nat.reduceBEq, Int.reduceEq, Int.reduceLT, Int.reduceLE, Int.reduceNeg, Int.reduceAdd, Int.reduceSub, Int.reduceMul, beq_self_eq_true, Nat.zero_add, gt_of r0, gt_of r1, gt_of r2, gt_of r9, gt_of r13, gt_of r16, gt_of r17, f65 hy256 (show p + 1 < 100000 by omega), hun3, hst]
      refine RunsC.again (u.length - (j + 1)) (by omega) ⟨j + 1, p + 1, T.put c j (.i .u8 (uj : Int)), by omega, by omega, (by (try simp only [get_put, ↓reduceIte, Nat.reduceEqDiff]) <;> first | assumption | rfl), (by (try simp only [get_put, ↓reduceIte, Nat.reduceEqDiff]) <;> first | assumption | rfl), (by (try simp only [get_put, ↓reduceIte, Nat.reduceEqDiff]) <;> first | assumption | rfl), (by (try simp only [get_put, ↓reduceIte, Nat.reduceEqDiff]) <;> first | assumption | rfl), (by (try simp only [get_put, ↓reduceIte, Nat.reduceEqDiff]) <;> first | assumption | rfl), (by (try simp only [get_put, ↓reduceIte, Nat.reduceEqDiff]) <;> first | assumption | rfl), (by (try simp only [get_put, ↓reduceIte, Nat.reduceEqDiff]) <;> first | assumption | rfl), d3.poke e ⟨rfl, fun a ha => by simp only [get_put]; rw [if_neg ha]⟩ (by omega) hnv, by simp only [get_put, if_true], fun a ha => ?_, hdw3, by have := r3.1; show h2.next < h3.next; omega⟩
      rw [get_put]
      by_cases ea : a = j
      · subst ea; rw [if_pos rfl, hU]
      · rw [if_neg ea]; exact hcj a (by omega)
    · obtain rfl : j = u.length := by omega
      simp -dsimp (disch := omega) only [go_sem, ↓reduceIte, Nat.reduceAdd, Nat.reduceSub, Nat.reduceMul, Nat.reduceLeDiff, Nat.reduceLT, Nat.reduceEqDiff, Nat.reduceBEq, Int.reduceEq, Int.reduceLT, Int.reduceLE, Int.reduceNeg, Int.reduceAdd, Int.reduceSub, Int.reduceMul, beq_self_eq_true, Nat.zero_add, gt_of r0, gt_of r1, gt_of r2, gt_of r9, gt_of r13, gt_of r16, gt_of r17]
      rw [List.drop_eq_nil_of_le (Nat.le_refl _), rz, List.nil_append] at hw
      subst pe
      refine RunsC.leave ⟨rfl, c, (by (try simp only [get_put, ↓reduceIte, Nat.reduceEqDiff]) <;> first | assumption | rfl), (by (try simp only [get_put, ↓reduceIte, Nat.reduceEqDiff]) <;> first | assumption | rfl), (by (try simp only [get_put, ↓reduceIte, Nat.reduceEqDiff]) <;> first | assumption | rfl), d, hc, fun a ha => ?_, hw, hlt2⟩
      rw [hcj a ha, List.getD_eq_getElem?_getD, List.getElem?_eq_getElem ha]
      rfl
  · rw [show p0 + 1 + 1 = 1 + p0 + 1 by omega]
    exact (by (try simp only [get_put, ↓reduceIte, Nat.reduceEqDiff]) <;> first | assumption | rfl)
  · rintro _ rg h3 ⟨rfl, c, r1, r2, r16, d, hc, hcu, hw, hlt3⟩
    have hbl : Sl .u8 5 h3 (.sl h2.next 0 u.length u.length) u := .sl _ _ _ _ hlt3 hc hcu (Nat.le_refl _)
    have hv3 : SlV h3 v2 k2 := hv2.keep d.fr.next fun j hj => d.fr.get j (hv2.lt hj) (hseg j hj).1 (hseg j hj).2.1
    simp -dsimp (disch := omega) only [go_sem, ↓reduceIte, Nat.reduceAdd, Nat.reduceSub, Nat.reduceMul, Nat.reduceLeDiff, Nat.reduceLT, Nat.reduceEqDiff, Nat.reduceBEq, Int.reduceEq, Int.reduceLT, Int.reduceLE, Int.reduceNeg, Int.reduceAdd, Int.reduceSub, Int.reduceMul, beq_self_eq_true, Nat.zero_add, gt_of r1, gt_of r2, gt_of r16]
    refine Runs.app (appV (ob := h3.objs) (nx := h3.next) hv3 rfl (by omega)) (by (try simp only [get_put, ↓reduceIte, Nat.reduceEqDiff]) <;> first | assumption | rfl) (by (try simp only [get_put, ↓reduceIte, Nat.reduceEqDiff]) <;> first | assumption | rfl) ?_
    rintro v2' h4 ⟨s1, s2, s3, s4⟩
    simp -dsimp (disch := omega) only [go_sem, ↓reduceIte, Nat.reduceAdd, Nat.reduceSub, Nat.reduceMul, Nat.reduceLeDiff, Nat.reduceLT, Nat.reduceEqDiff, Nat.reduceBEq, Int.reduceEq, Int.reduceLT, Int.reduceLE, Int.reduceNeg, Int.reduceAdd, Int.reduceSub, Int.reduceMul, beq_self_eq_true, Nat.zero_add, gt_of r1, gt_of r2, gt_of r16]
    have ho2 : ∀ j, Owns v2 j → j < h.next := fun j hj => hv2.lt hj
    have hbl4 : Sl .u8 5 h4 (.sl h2.next 0 u.length u.length) u := hbl.keep s2 fun j hj => s3 j (by cases hj; exact hlt3) fun ho => by cases hj; exact absurd (ho2 _ ho) (by omega)
    refine Runs.bind (f66 (by omega) hbl4 hul (by omega)) ?_
    rintro _ h5 ⟨str, rfl, t1, t2⟩
    have hout4 : Sl .u8 5 h4 v0 xs0 := d.out.keep s2 fun j hj => s3 j (d.out.lt hj) fun ho => (hseg j ho).2.1 hj
    have hout5 : Sl .u8 5 h5 v0 xs0 := hout4.keep t2.next fun j hj => t2.get j (hout4.lt hj)
    simp -dsimp (disch := omega) only [go_sem, ↓reduceIte, Nat.reduceAdd, Nat.reduceSub, Nat.reduceMul, Nat.reduceLeDiff, Nat.reduceLT, Nat.reduceEqDiff, Nat.reduceBEq, Int.reduceEq, Int.reduceLT, Int.reduceLE, Int.reduceNeg, Int.reduceAdd, Int.reduceSub, Int.reduceMul, beq_self_eq_true, Nat.zero_add, gt_of r1, gt_of r2, gt_of r16]
    refine Runs.app (appNs hout5 t1.sl (fun j h1 h2 => by have := hout4.lt h1; have := t1.own j h2; omega) hu0 (by omega)) (by (try simp only [get_put, ↓reduceIte, Nat.reduceEqDiff]) <;> first | assumption | rfl) (by (try simp only [get_put, ↓reduceIte, Nat.reduceEqDiff]) <;> first | assumption | rfl) ?_
    rintro v' h6 ⟨b1, b2, b3, b4⟩
    simp -dsimp (disch := omega) only [go_sem, ↓reduceIte, Nat.reduceAdd, Nat.reduceSub, Nat.reduceMul, Nat.reduceLeDiff, Nat.reduceLT, Nat.reduceEqDiff, Nat.reduceBEq, Int.reduceEq, Int.reduceLT, Int.reduceLE, Int.reduceNeg, Int.reduceAdd, Int.reduceSub, Int.reduceMul, beq_self_eq_true, Nat.zero_add, gt_of r1, gt_of r2, gt_of r16]
    have hv0l : ∀ j, Owns v0 j → j < h.next := fun j hj => hd.out.lt hj
    have hdl : ∀ j, Owns data j → j < h.next := fun j hj => (e.od j hj).1
    have n3 : h.next ≤ h3.next := d.fr.next
    have s2' : h3.next ≤ h4.next := s2
    have t2n := t2.next
    have hget : ∀ j, j < h.next → ¬ Owns v0 j → ¬ Owns v2 j → T.get h6.objs j = T.get h3.objs j := fun j hj a b => by rw [b3 j (by omega) a, t2.get j (by omega), s3 j (by omega) b]
    refine Runs.ret ⟨p0 + 1 + u.length, v', v2', k2 + 1, rfl, hw, by rw [rz_len, List.length_append, List.length_singleton]; omega, by omega, ?_, ?_, b1, ?_, Nat.le_refl _, by omega, ?_, ?_, ?_, ?_⟩
    · exact d.bits.keep (hget bs e.blt e.ob fun ho => (hseg bs ho).1 rfl)
    · exact d.data.keep (by omega) fun j hj => hget j (hdl j hj) (e.od j hj).2.1 fun ho => (hseg j ho).2.2 hj
    · refine s1.keep (by omega) fun j hj => ?_
      have hj4 : j < h4.next := s1.lt hj
      rw [b3 j (by omega) fun ho => ?_, t2.get j hj4]
      rcases s4 j hj with h | h
      · exact (hseg j h).2.1 ho
      · have := hv0l j ho; omega
    · intro j hj a b c
      rw [hget j hj b c]
      exact d.fr.get j hj a b
    · intro j hj
      rcases b4 j hj with h | h
      · exact .inl h
      · exact .inr (by omega)
    · intro j hj
      rcases s4 j hj with h | h
      · exact .inl h
      · exact .inr (by omega)
    · intro j hj hj2
      have hj4 : j < h4.next := s1.lt hj2
      rcases b4 j hj with h | h
      · rcases s4 j hj2 with h' | h'
        · exact (hseg j h').2.1 h
        · have := hv0l j h; omega
      · omega
end Go.Proofs.YtcnallabiffemaaGreatDoor.Vm
