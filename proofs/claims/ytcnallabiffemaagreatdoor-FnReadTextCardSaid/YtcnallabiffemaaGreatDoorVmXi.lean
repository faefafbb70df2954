/- Codewords of a text, segment by segment: run with letters. Conditions: at most 1000 characters. -/
import Derived.Test.YtcnallabiffemaaGreatDoorVmXh
set_option linter.unusedSimpArgs false
set_option linter.unusedVariables false
namespace Go.Proofs.YtcnallabiffemaaGreatDoor.Vm
open Go
/-- Codewords of a text, in segments. -/
inductive Chunks : Nat → List Nat → List Nat → Prop where
  | nil (p : Nat) : Chunks p [] []
  | seg (p mode : Nat) (t t' ws ws' : List Nat) (h : Seg mode p t ws) (ht : t ≠ []) (h20 : mode ≠ 0 → t.length ≤ 20) (hr : Chunks (p + ws.length) t' ws') : Chunks p (t ++ t') (ws ++ ws')
theorem Chunks.snoc {p mode : Nat} {t ws u vs : List Nat} (h : Chunks p t ws) (hs : Seg mode (p + ws.length) u vs) (hu : u ≠ []) (h20 : mode ≠ 0 → u.length ≤ 20) : Chunks p (t ++ u) (ws ++ vs) := by
  induction h with
  | nil p => exact (by simpa using Chunks.seg p mode u [] vs [] (by simpa using hs) hu h20 (.nil _))
  | seg p md t t' ws ws' h ht h2 hr ih =>
    rw [List.append_assoc, List.append_assoc]
    exact .seg p md t _ ws _ h ht h2 (ih (by rw [List.length_append] at hs; rw [show p + ws.length + ws'.length = p + (ws.length + ws'.length) by omega]; exact hs))
/-- A row of whole numbers that lies ahead of a place, for ever. -/
structure RoS (m : Nat) (h : AH) (v : AV) (zs : List Int) : Prop where
  ln : ∀ k w, ln 22 v k w = k (.i .i64 (zs.length : Int))
  ix : ∀ h', Same m h h' → ∀ j, j < zs.length → ∃ p, (∀ k w, ix v j k w = k p) ∧ ∀ k w, ld h' p k w = k (.i .i64 (zs.getD j 0))
  lt : ∀ z ∈ zs, -9223372036854775808 ≤ z ∧ z < 9223372036854775808
theorem tmod_bd (c : Int) (n : Int) (hn : 0 < n) : -n < c.tmod n ∧ c.tmod n < n := by
  have h1 := Int.tmod_lt_of_pos c hn
  have h2 := Int.tmod_lt_of_pos (-c) hn
  rw [Int.neg_tmod] at h2
  omega
theorem tdiv_bd (c : Int) (h0 : -9223372036854775808 ≤ c) (h1 : c < 9223372036854775808) : -9223372036854775808 ≤ c.tdiv 6 ∧ c.tdiv 6 < 9223372036854775808 := by
  have h2 := tmod_bd c 6 (by omega)
  have h3 := Int.mul_tdiv_add_tmod c 6
  omega
theorem tmod_pos (r : Int) (n : Nat) (h0 : 0 ≤ r) (hn : 0 < n) : ∃ a : Nat, r.tmod (n : Int) = (a : Int) ∧ a < n := by
  obtain ⟨b, rfl⟩ := Int.eq_ofNat_of_zero_le h0
  exact ⟨b % n, rfl, Nat.mod_lt _ hn⟩
theorem choice (c : Int) (h0 : -9223372036854775808 ≤ c) (h1 : c < 9223372036854775808) : ∃ mode q : Nat, mode < 6 ∧ q < 20 ∧ IntKind.i64.wrap (c.tmod 6 + 6) = c.tmod 6 + 6 ∧ (c.tmod 6 + 6).tmod 6 = (mode : Int) ∧
    IntKind.i64.wrap (c.tdiv 6) = c.tdiv 6 ∧ IntKind.i64.wrap ((c.tdiv 6).tmod 20 + 20) = (c.tdiv 6).tmod 20 + 20 ∧ ((c.tdiv 6).tmod 20 + 20).tmod 20 = (q : Int) := by
  have a := tmod_bd c 6 (by omega)
  have b := tmod_bd (c.tdiv 6) 20 (by omega)
  have d := tdiv_bd c h0 h1
  obtain ⟨mode, e1, e2⟩ := tmod_pos (c.tmod 6 + 6) 6 (by omega) (by omega)
  obtain ⟨q, e3, e4⟩ := tmod_pos ((c.tdiv 6).tmod 20 + 20) 20 (by omega) (by omega)
  exact ⟨mode, q, e2, e4, wrap_i (by omega) (by omega), e1, wrap_i (by omega) (by omega), wrap_i (by omega) (by omega), e3⟩
theorem size_extract (s : ByteArray) (i j : Nat) (h1 : i ≤ j) (h2 : j ≤ s.size) : (s.extract i j).size = j - i := by
  rw [← cs_len, cs_extract, List.length_take, List.length_drop, cs_len]
  omega
theorem cut (s : ByteArray) (i n : Nat) : (cs s).take i ++ ((cs s).drop i).take n = (cs s).take (i + n) := by
  rw [List.take_add]
theorem encA_len : ∀ n (t : List Nat), t.length ≤ n → (encA t).length ≤ t.length
  | 0, [], _ => by simp [encA]
  | n + 1, [], _ => by simp [encA]
  | n + 1, [a], _ => by simp [encA]
  | n + 1, a :: b :: l, h => by
    simp only [List.length_cons] at h
    have h1 := encA_len n l (by omega)
    have h2 := encA_len n (b :: l) (by simp only [List.length_cons]; omega)
    rw [encA]
    split
    · simp only [List.length_cons] at h1 ⊢; omega
    · simp only [List.length_cons] at h2 ⊢; omega
theorem encA_ne (a : Nat) (t : List Nat) : encA (a :: t) ≠ [] := by
  cases t with
  | nil => simp [encA]
  | cons b l => rw [encA]; split <;> simp
theorem go6_len : ∀ (l : List Nat) (acc cnt : Nat), (go6 acc cnt l).length ≤ l.length + 1
  | [], acc, cnt => by rw [go6]; split <;> simp
  | x :: l, acc, cnt => by
    rw [go6]
    split
    · have := go6_len l ((acc * 64 + x) % 2 ^ (cnt - 2)) (cnt - 2)
      simp only [List.length_cons]; omega
    · have := go6_len l (acc * 64 + x) (cnt + 6)
      simp only [List.length_cons]; omega
theorem rz_len : ∀ (l : List Nat) (b : Nat), (rz b l).length = l.length
  | [], _ => rfl
  | x :: l, b => by rw [rz, List.length_cons, rz_len l, List.length_cons]
theorem pairs_len : ∀ n (l : List Nat), l.length ≤ n → (pairs l).length ≤ l.length
  | 0, [], _ => by simp [pairs]
  | n + 1, [], _ => by simp [pairs]
  | n + 1, [_], _ => by simp [pairs]
  | n + 1, [_, _], _ => by simp [pairs]
  | n + 1, a :: b :: c :: l, h => by
    simp only [List.length_cons] at h
    have h1 := pairs_len n l (by omega)
    rw [pairs]
    simp only [List.length_cons]; omega
theorem Trip.len {mode : Nat} : ∀ {t l : List Nat}, Trip mode t l → l.length ≤ 2 * t.length
  | [], l, h => by
    obtain rfl : l = [] := h
    simp
  | c :: t, l, h => by
    obtain ⟨v, r, h1, rfl, h2⟩ := h
    have := h2.len
    have := h1.lt.2.1
    rw [List.length_append, List.length_cons]; omega
theorem Seg.len {mode b : Nat} {t ws : List Nat} (h : Seg mode b t ws) : ws.length ≤ 3 * t.length + 3 := by
  rcases h with ⟨_, rfl⟩ | ⟨_, rfl, _⟩ | ⟨_, rfl⟩ | ⟨_, l, h1, _, _, rfl⟩
  · have := encA_len _ t (Nat.le_refl _); omega
  · have := go6_len (sext t) 0 0
    unfold encE
    have e : (sext t).length = t.length + 1 := by simp [sext]
    simp only [List.length_cons]; omega
  · unfold encB hdr
    split <;> simp only [List.length_cons, rz_len, List.length_append, List.length_nil] <;> omega
  · have := pairs_len _ l (Nat.le_refl _)
    have := h1.len
    unfold encT
    simp only [List.length_cons, List.length_append, List.length_nil]; omega
theorem Seg.ne {mode b : Nat} {t ws : List Nat} (h : Seg mode b t ws) (ht : t ≠ []) : ws ≠ [] := by
  rcases h with ⟨_, rfl⟩ | ⟨_, rfl, _⟩ | ⟨_, rfl⟩ | ⟨_, l, h1, _, _, rfl⟩
  · cases t with
    | nil => exact absurd rfl ht
    | cons a t => exact encA_ne a t
  · simp [encE]
  · simp [encB]
  · simp [encT]
structure InvW (s : ByteArray) (u : AV) (m0 : Nat) (h0 : AH) (rg : T AV) (h : AH) (p k : Nat) (v : AV) (xs : List Nat) : Prop where
  r0 : T.get rg 0 = some (.s s)
  r1 : T.get rg 1 = some u
  r5 : T.get rg 5 = some v
  r6 : T.get rg 6 = some (.i .i64 (p : Int))
  r7 : T.get rg 7 = some (.i .i64 (k : Int))
  sl : SlN .i64 3 m0 h v xs
  same : Same m0 h0 h
  all : Chunks 0 ((cs s).take p) xs
  hp : p ≤ s.size
  hk : k ≤ p
  len : xs.length ≤ 3 * p + 3 * k
set_option maxHeartbeats 4000000 in
set_option maxRecDepth 100000 in
theorem f6 {m : Nat} {h : AH} {s : ByteArray} {u : AV} {zs : List Int} (hm : 60000 ≤ m) (hs : s.size ≤ 1000) (hu : RoS h.next h u zs) (hz : zs.length < 10000) :
    Runs (fun k => cl Tryz.prog (exec Tryz.prog m) false 6 (.c (.s s) (.c u .e)) h k ⟨⟩) fun w h' => ∃ ws, SlN .i64 3 h.next h' w ws ∧ Same h.next h h' ∧ Chunks 0 (cs s) ws ∧ ws.length ≤ 6000 := by
  obtain ⟨m, rfl⟩ : ∃ n, m = n + 100 := ⟨m - 100, by omega⟩
  refine Runs.of_eq (fun k => cl_in Tryz.func6 rfl (by kernel_rfl) Tryz.ntmps6 Tryz.results6 rfl rfl _ _ _ _ _ _) ?_
  simp -dsimp (disch := omega) only [go_sem, ↓reduceIte, Nat.reduceAdd, Nat.reduceSub, Nat.reduceMul, Nat.reduceLeDiff, Nat.reduceLT, Nat.reduceEqDiff, Nat.reduceBEq, Int.reduceEq, Int.reduceLT, Int.reduceLE, Int.reduceNeg, Int.reduceAdd, Int.reduceSub, Int.reduceMul, beq_self_eq_true]
  refine Runs.loop (loop_rule 41000 (fun i rg h' => ∃ p k v xs, p + i = s.size ∧ InvW s u h.next h rg h' p k v xs)
    (Q := fun e rg h' => e = .exit 0 ∧ ∃ k v xs, InvW s u h.next h rg h' s.size k v xs) ?_ s.size _ _ _ (by omega) ⟨0, 0, .ns, [], by omega, ⟨(by simp only [get_put, ↓reduceIte, Nat.reduceEqDiff] <;> first | assumption | rfl), (by simp only [get_put, ↓reduceIte, Nat.reduceEqDiff] <;> first | assumption | rfl), (by simp only [get_put, ↓reduceIte, Nat.reduceEqDiff] <;> first | assumption | rfl), (by simp only [get_put, ↓reduceIte, Nat.reduceEqDiff] <;> first | assumption | rfl), (by simp only [get_put, ↓reduceIte, Nat.reduceEqDiff] <;> first | assumption | rfl), SlN.nil, Same.rfl', .nil _, by omega, by omega, by simp⟩⟩) ?_
  · rintro m i rg h' hm ⟨p, c, v, xs, pi, hi⟩
    obtain ⟨m, rfl⟩ : ∃ n, m = n + 100 := ⟨m - 100, by omega⟩
    have r0 := hi.r0; have r1 := hi.r1; have r5 := hi.r5; have r6 := hi.r6; have r7 := hi.r7
    have hl := hi.len; have hkk := hi.hk
    simp -dsimp (disch := omega) only [go_sem, ↓reduceIte, Nat.reduceAdd, Nat.reduceSub, Nat.reduceMul, Nat.reduceLeDiff, Nat.reduceLT, Nat.reduceEqDiff, Nat.reduceBEq, Int.reduceEq, Int.reduceLT, Int.reduceLE, Int.reduceNeg, Int.reduceAdd, Int.reduceSub, Int.reduceMul, beq_self_eq_true, gt_of r0, gt_of r1, gt_of r5, gt_of r6, gt_of r7]
    refine RunsC.brd (fun d1 => ?_) (fun d1 => ?_) <;> simp -dsimp (disch := omega) only [go_sem, ↓reduceIte, Nat.reduceAdd, Nat.reduceSub, Nat.reduceMul, Nat.reduceLeDiff, Nat.reduceLT, Nat.reduceEqDiff, Nat.reduceBEq, Int.reduceEq, Int.reduceLT, Int.reduceLE, Int.reduceNeg, Int.reduceAdd, Int.reduceSub, Int.reduceMul, beq_self_eq_true, gt_of r0, gt_of r1, gt_of r5, gt_of r6, gt_of r7, hu.ln]
    · refine RunsC.joind (fun e rg h2 => e = .normal ∧ h2 = h' ∧ ∃ mode most : Nat, mode < 6 ∧ 0 < most ∧ most ≤ 1000 ∧ (mode ≠ 0 → most ≤ 20) ∧ T.get rg 0 = some (.s s) ∧ T.get rg 1 = some u ∧ T.get rg 5 = some v ∧ T.get rg 6 = some (.i .i64 (p : Int)) ∧ T.get rg 7 = some (.i .i64 (c : Int)) ∧
          T.get rg 8 = some (.i .i64 (mode : Int)) ∧ T.get rg 9 = some (.i .i64 (most : Int))) ?_ ?_ ?_
      · intro d2
        have hz0 : ¬ (zs.length : Int) = 0 := by omega
        have hlt := Nat.mod_lt c (show 0 < zs.length by omega)
        obtain ⟨q, e1, e2⟩ := hu.ix h' hi.same (c % zs.length) hlt
        have hzz := hu.lt (zs.getD (c % zs.length) 0) (by rw [List.getD_eq_getElem?_getD, List.getElem?_eq_getElem hlt]; exact List.getElem_mem _)
        generalize zs.getD (c % zs.length) 0 = z at *
        obtain ⟨mode, q, g1, g2, g3, g4, g5, g6, g7⟩ := choice z hzz.1 hzz.2
        simp -dsimp (disch := omega) only [go_sem, ↓reduceIte, Nat.reduceAdd, Nat.reduceSub, Nat.reduceMul, Nat.reduceLeDiff, Nat.reduceLT, Nat.reduceEqDiff, Nat.reduceBEq, Int.reduceEq, Int.reduceLT, Int.reduceLE, Int.reduceNeg, Int.reduceAdd, Int.reduceSub, Int.reduceMul, beq_self_eq_true, gt_of r0, gt_of r1, gt_of r5, gt_of r6, gt_of r7, hu.ln, hz0, e1, e2, g3, g4, g5, g6, g7]
        exact RunsC.ret ⟨rfl, rfl, mode, 1 + q, g1, by omega, by omega, by omega, (by simp only [get_put, ↓reduceIte, Nat.reduceEqDiff] <;> first | assumption | rfl), (by simp only [get_put, ↓reduceIte, Nat.reduceEqDiff] <;> first | assumption | rfl), (by simp only [get_put, ↓reduceIte, Nat.reduceEqDiff] <;> first | assumption | rfl), (by simp only [get_put, ↓reduceIte, Nat.reduceEqDiff] <;> first | assumption | rfl), (by simp only [get_put, ↓reduceIte, Nat.reduceEqDiff] <;> first | assumption | rfl), (by simp only [get_put, ↓reduceIte, Nat.reduceEqDiff] <;> first | assumption | rfl), (by simp only [get_put, ↓reduceIte, Nat.reduceEqDiff] <;> first | assumption | rfl)⟩
      · intro d2
        simp -dsimp (disch := omega) only [go_sem, ↓reduceIte, Nat.reduceAdd, Nat.reduceSub, Nat.reduceMul, Nat.reduceLeDiff, Nat.reduceLT, Nat.reduceEqDiff, Nat.reduceBEq, Int.reduceEq, Int.reduceLT, Int.reduceLE, Int.reduceNeg, Int.reduceAdd, Int.reduceSub, Int.reduceMul, beq_self_eq_true, gt_of r0, gt_of r1, gt_of r5, gt_of r6, gt_of r7]
        exact RunsC.ret ⟨rfl, rfl, 0, s.size, by omega, by omega, by omega, by omega, (by simp only [get_put, ↓reduceIte, Nat.reduceEqDiff] <;> first | assumption | rfl), (by simp only [get_put, ↓reduceIte, Nat.reduceEqDiff] <;> first | assumption | rfl), (by simp only [get_put, ↓reduceIte, Nat.reduceEqDiff] <;> first | assumption | rfl), (by simp only [get_put, ↓reduceIte, Nat.reduceEqDiff] <;> first | assumption | rfl), (by simp only [get_put, ↓reduceIte, Nat.reduceEqDiff] <;> first | assumption | rfl), (by simp only [get_put, ↓reduceIte, Nat.reduceEqDiff] <;> first | assumption | rfl), (by simp only [get_put, ↓reduceIte, Nat.reduceEqDiff] <;> first | assumption | rfl)⟩
      · rintro _ rg h2 ⟨rfl, rfl, mode, most, m6, m0, m1, m20, r0, r1, r5, r6, r7, r8, r9⟩
        have hmin : (if ((p + most : Nat) : Int) < (s.size : Int) then ((p + most : Nat) : Int) else (s.size : Int)) = ((p + min most (s.size - p) : Nat) : Int) := by
          split <;> omega
        have hse := size_extract s p (p + min most (s.size - p)) (by omega) (by omega)
        simp -dsimp (disch := omega) only [go_sem, ↓reduceIte, Nat.reduceAdd, Nat.reduceSub, Nat.reduceMul, Nat.reduceLeDiff, Nat.reduceLT, Nat.reduceEqDiff, Nat.reduceBEq, Int.reduceEq, Int.reduceLT, Int.reduceLE, Int.reduceNeg, Int.reduceAdd, Int.reduceSub, Int.reduceMul, beq_self_eq_true, gt_of r0, gt_of r1, gt_of r5, gt_of r6, gt_of r7, gt_of r8, gt_of r9, hi.sl.sl.ln22, hmin]
        refine RunsC.bind (f12 (by omega) (by omega) m6 (by omega)) ?_
        rintro _ h3 ⟨w, n, ws, rfl, hn, a1, a2, a3⟩
        rw [hse] at hn
        rw [cs_extract, List.take_take] at a3
        simp -dsimp (disch := omega) only [go_sem, ↓reduceIte, Nat.reduceAdd, Nat.reduceSub, Nat.reduceMul, Nat.reduceLeDiff, Nat.reduceLT, Nat.reduceEqDiff, Nat.reduceBEq, Int.reduceEq, Int.reduceLT, Int.reduceLE, Int.reduceNeg, Int.reduceAdd, Int.reduceSub, Int.reduceMul, beq_self_eq_true, gt_of r0, gt_of r1, gt_of r5, gt_of r6, gt_of r7, gt_of r8, gt_of r9]
        refine RunsC.joind (fun e rg h4 => e = .normal ∧ ∃ (w : AV) (n mode : Nat) (ws : List Nat), 0 < n ∧ n ≤ s.size - p ∧ (mode ≠ 0 → n ≤ 20) ∧ SlN .i64 3 h2.next h4 w ws ∧ Same h2.next h2 h4 ∧ Seg mode xs.length (((cs s).drop p).take n) ws ∧
          T.get rg 0 = some (.s s) ∧ T.get rg 1 = some u ∧ T.get rg 5 = some v ∧ T.get rg 6 = some (.i .i64 (p : Int)) ∧ T.get rg 7 = some (.i .i64 (c : Int)) ∧ T.get rg 11 = some w ∧ T.get rg 12 = some (.i .i64 (n : Int))) ?_ ?_ ?_
        · intro d2
          have hse1 := size_extract s p (p + 1) (by omega) (by omega)
          simp -dsimp (disch := omega) only [go_sem, ↓reduceIte, Nat.reduceAdd, Nat.reduceSub, Nat.reduceMul, Nat.reduceLeDiff, Nat.reduceLT, Nat.reduceEqDiff, Nat.reduceBEq, Int.reduceEq, Int.reduceLT, Int.reduceLE, Int.reduceNeg, Int.reduceAdd, Int.reduceSub, Int.reduceMul, beq_self_eq_true, gt_of r0, gt_of r1, gt_of r5, gt_of r6, gt_of r7]
          refine RunsC.bind (f13 (by omega) (by omega)) ?_
          rintro _ h4 ⟨w', rfl, b1, b2⟩
          simp -dsimp (disch := omega) only [go_sem, ↓reduceIte, Nat.reduceAdd, Nat.reduceSub, Nat.reduceMul, Nat.reduceLeDiff, Nat.reduceLT, Nat.reduceEqDiff, Nat.reduceBEq, Int.reduceEq, Int.reduceLT, Int.reduceLE, Int.reduceNeg, Int.reduceAdd, Int.reduceSub, Int.reduceMul, beq_self_eq_true, gt_of r0, gt_of r1, gt_of r5, gt_of r6, gt_of r7]
          refine RunsC.ret ⟨rfl, w', 1, 0, _, by omega, by omega, by omega, b1.less a2.next, a2.trans (b2.less a2.next), .inl ⟨rfl, ?_⟩, (by simp only [get_put, ↓reduceIte, Nat.reduceEqDiff] <;> first | assumption | rfl), (by simp only [get_put, ↓reduceIte, Nat.reduceEqDiff] <;> first | assumption | rfl), (by simp only [get_put, ↓reduceIte, Nat.reduceEqDiff] <;> first | assumption | rfl), (by simp only [get_put, ↓reduceIte, Nat.reduceEqDiff] <;> first | assumption | rfl), (by simp only [get_put, ↓reduceIte, Nat.reduceEqDiff] <;> first | assumption | rfl), (by simp only [get_put, ↓reduceIte, Nat.reduceEqDiff] <;> first | assumption | rfl), ?_⟩
          · rw [cs_extract, show p + 1 - p = 1 by omega]
          · rw [hse1, show p + 1 - p = 1 by omega]
            exact (by simp only [get_put, ↓reduceIte, Nat.reduceEqDiff] <;> first | assumption | rfl)
        · intro d2
          simp -dsimp (disch := omega) only [go_sem, ↓reduceIte, Nat.reduceAdd, Nat.reduceSub, Nat.reduceMul, Nat.reduceLeDiff, Nat.reduceLT, Nat.reduceEqDiff, Nat.reduceBEq, Int.reduceEq, Int.reduceLT, Int.reduceLE, Int.reduceNeg, Int.reduceAdd, Int.reduceSub, Int.reduceMul, beq_self_eq_true, gt_of r0, gt_of r1, gt_of r5, gt_of r6, gt_of r7]
          refine RunsC.ret ⟨rfl, w, n, mode, ws, by omega, by omega, by omega, a1, a2, ?_, (by simp only [get_put, ↓reduceIte, Nat.reduceEqDiff] <;> first | assumption | rfl), (by simp only [get_put, ↓reduceIte, Nat.reduceEqDiff] <;> first | assumption | rfl), (by simp only [get_put, ↓reduceIte, Nat.reduceEqDiff] <;> first | assumption | rfl), (by simp only [get_put, ↓reduceIte, Nat.reduceEqDiff] <;> first | assumption | rfl), (by simp only [get_put, ↓reduceIte, Nat.reduceEqDiff] <;> first | assumption | rfl), (by simp only [get_put, ↓reduceIte, Nat.reduceEqDiff] <;> first | assumption | rfl), (by simp only [get_put, ↓reduceIte, Nat.reduceEqDiff] <;> first | assumption | rfl)⟩
          rcases a3 with a3 | a3
          · omega
          · rw [Nat.min_eq_left (by omega)] at a3
            exact a3
        · rintro _ rg h4 ⟨rfl, w, n, md, ws, n0, n1, n20, b1, b2, b3, r0, r1, r5, r6, r7, r11, r12⟩
          have hne : ((cs s).drop p).take n ≠ [] := by
            intro e
            have := congrArg List.length e
            rw [List.length_take, List.length_drop, cs_len] at this
            simp at this; omega
          have hnl : (((cs s).drop p).take n).length = n := by rw [List.length_take, List.length_drop, cs_len]; omega
          have hwl := b3.len
          rw [hnl] at hwl
          simp -dsimp (disch := omega) only [go_sem, ↓reduceIte, Nat.reduceAdd, Nat.reduceSub, Nat.reduceMul, Nat.reduceLeDiff, Nat.reduceLT, Nat.reduceEqDiff, Nat.reduceBEq, Int.reduceEq, Int.reduceLT, Int.reduceLE, Int.reduceNeg, Int.reduceAdd, Int.reduceSub, Int.reduceMul, beq_self_eq_true, gt_of r0, gt_of r1, gt_of r5, gt_of r6, gt_of r7, gt_of r11, gt_of r12]
          refine RunsC.app (appN ty_el22 ty_os3 ty_z3 (hi.sl.keep b2 (Nat.le_refl _)) (Nat.le_trans hi.same.next b2.next) b1.sl (fun j h1 h2 => by have := hi.sl.sl.lt h1; have := b1.own j h2; omega) (b3.ne hne) (by omega)) (by simp only [get_put, ↓reduceIte, Nat.reduceEqDiff] <;> first | assumption | rfl) (by simp only [get_put, ↓reduceIte, Nat.reduceEqDiff] <;> first | assumption | rfl) ?_
          rintro v' h5 ⟨d1', d2', _⟩
          simp -dsimp (disch := omega) only [go_sem, ↓reduceIte, Nat.reduceAdd, Nat.reduceSub, Nat.reduceMul, Nat.reduceLeDiff, Nat.reduceLT, Nat.reduceEqDiff, Nat.reduceBEq, Int.reduceEq, Int.reduceLT, Int.reduceLE, Int.reduceNeg, Int.reduceAdd, Int.reduceSub, Int.reduceMul, beq_self_eq_true, gt_of r0, gt_of r1, gt_of r5, gt_of r6, gt_of r7, gt_of r11, gt_of r12]
          refine RunsC.again (s.size - (p + n)) (by omega) ⟨p + n, c + 1, v', xs ++ ws, by omega, ⟨(by simp only [get_put, ↓reduceIte, Nat.reduceEqDiff] <;> first | assumption | rfl), (by simp only [get_put, ↓reduceIte, Nat.reduceEqDiff] <;> first | assumption | rfl), (by simp only [get_put, ↓reduceIte, Nat.reduceEqDiff] <;> first | assumption | rfl), (by simp only [get_put, ↓reduceIte, Nat.reduceEqDiff] <;> first | assumption | rfl), (by simp only [get_put, ↓reduceIte, Nat.reduceEqDiff] <;> first | assumption | rfl), d1', (hi.same.trans (b2.less hi.same.next)).trans d2', ?_, by omega, by omega, ?_⟩⟩
          · rw [← cut s p n]
            exact hi.all.snoc (by rw [Nat.zero_add]; exact b3) hne (by rw [hnl]; exact n20)
          · rw [List.length_append]; omega
    · obtain rfl : p = s.size := by omega
      exact RunsC.leave ⟨rfl, c, v, xs, ⟨(by simp only [get_put, ↓reduceIte, Nat.reduceEqDiff] <;> first | assumption | rfl), (by simp only [get_put, ↓reduceIte, Nat.reduceEqDiff] <;> first | assumption | rfl), (by simp only [get_put, ↓reduceIte, Nat.reduceEqDiff] <;> first | assumption | rfl), (by simp only [get_put, ↓reduceIte, Nat.reduceEqDiff] <;> first | assumption | rfl), (by simp only [get_put, ↓reduceIte, Nat.reduceEqDiff] <;> first | assumption | rfl), hi.sl, hi.same, hi.all, by omega, hi.hk, hi.len⟩⟩
  · rintro _ rg h' ⟨rfl, c, v, xs, hi⟩
    have r5 := hi.r5
    simp -dsimp (disch := omega) only [go_sem, ↓reduceIte, Nat.reduceAdd, Nat.reduceSub, Nat.reduceMul, Nat.reduceLeDiff, Nat.reduceLT, Nat.reduceEqDiff, Nat.reduceBEq, Int.reduceEq, Int.reduceLT, Int.reduceLE, Int.reduceNeg, Int.reduceAdd, Int.reduceSub, Int.reduceMul, beq_self_eq_true, gt_of r5]
    have := hi.all
    rw [List.take_of_length_le (by rw [cs_len]; omega)] at this
    exact Runs.ret ⟨xs, hi.sl, hi.same, this, by have := hi.len; have := hi.hk; omega⟩
end Go.Proofs.YtcnallabiffemaaGreatDoor.Vm
