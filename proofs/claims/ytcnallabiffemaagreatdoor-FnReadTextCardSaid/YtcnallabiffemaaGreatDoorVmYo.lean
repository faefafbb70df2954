/- The closure of the reading, and the plain law: codewords in segments are tokens. Conditions: characters below 128. -/
import Derived.Test.YtcnallabiffemaaGreatDoorVmYn
set_option linter.unusedSimpArgs false
set_option linter.unusedVariables false
namespace Go.Proofs.YtcnallabiffemaaGreatDoor.Vm
open Go
set_option maxHeartbeats 4000000 in
set_option maxRecDepth 100000 in
theorem f17 {m : Nat} {h : AH} {data : AV} {W total : List Nat} {i0 i1 : Nat} {c0 c1 : T AV} (hm : 70000 ≤ m) (hd : Sl .u8 5 h data W) (hW : W.length < 4000) (hlt : ∀ x ∈ W, x < 256) (htok : Tok' 0 W total) (ht : total.length < 5000) (ht0 : total ≠ []) (htl : ∀ x ∈ total, x < 256) (hne : idOf data ≠ h.next)
    (g0 : T.get h.objs i0 = some (.cells 42 1 c0)) (e0 : T.get c0 0 = some data) (g1 : T.get h.objs i1 = some (.cells 9 1 c1)) (l1 : i1 < h.next) :
    Runs (fun k => cl Tryz.prog (exec Tryz.prog m) false 17 (.c (.p i0 0) (.c (.p i1 0) .e)) h k ⟨⟩) fun r h' => r = .b true ∧ (∃ c s, T.get h'.objs i1 = some (.cells 9 1 c) ∧ T.get c 0 = some (.s s) ∧ cs s = total) ∧ ∀ j, j < h.next → j ≠ i1 → T.get h'.objs j = T.get h.objs j := by
  obtain ⟨m, rfl⟩ : ∃ n, m = n + 100 := ⟨m - 100, by omega⟩
  refine Runs.of_eq (fun k => cl_in Tryz.func17 rfl (by kernel_rfl) Tryz.ntmps17 Tryz.results17 rfl rfl _ _ _ _ _ _) ?_
  have hld : ∀ k w, ld h (.p i0 0) k w = k data := fun k w => ld_p k h i0 0 w _ g0 _ (by rw [at_cells, if_pos (by omega), e0])
  simp -dsimp (disch := omega) only [go_sem, ↓reduceIte, Nat.reduceAdd, Nat.reduceSub, Nat.reduceMul, Nat.reduceLeDiff, Nat.reduceLT, Nat.reduceEqDiff, Nat.reduceBEq, Int.reduceEq, Int.reduceLT, Int.reduceLE, Int.reduceNeg, Int.reduceAdd, Int.reduceSub, Int.reduceMul, beq_self_eq_true, Nat.zero_add, hld]
  refine Runs.bind (f18 (by omega) hd hW hlt htok ht ht0 htl hne) ?_
  rintro _ h2 ⟨u, s, rfl, q1, q2, q3⟩
  simp -dsimp (disch := omega) only [go_sem, ↓reduceIte, Nat.reduceAdd, Nat.reduceSub, Nat.reduceMul, Nat.reduceLeDiff, Nat.reduceLT, Nat.reduceEqDiff, Nat.reduceBEq, Int.reduceEq, Int.reduceLT, Int.reduceLE, Int.reduceNeg, Int.reduceAdd, Int.reduceSub, Int.reduceMul, beq_self_eq_true, Nat.zero_add]
  refine Runs.bind (f19 (by omega) q1) ?_
  rintro _ h3 ⟨rfl, rfl⟩
  have g1' : T.get h3.objs i1 = some (.cells 9 1 c1) := by rw [q3.get i1 l1, g1]
  have hst := sto_of g1'
  simp -dsimp (disch := omega) only [go_sem, ↓reduceIte, Nat.reduceAdd, Nat.reduceSub, Nat.reduceMul, Nat.reduceLeDiff, Nat.reduceLT, Nat.reduceEqDiff, Nat.reduceBEq, Int.reduceEq, Int.reduceLT, Int.reduceLE, Int.reduceNeg, Int.reduceAdd, Int.reduceSub, Int.reduceMul, beq_self_eq_true, Nat.zero_add, hst]
  exact Runs.ret ⟨rfl, ⟨_, s, by simp only [get_put, if_true] <;> rfl, by simp only [get_put, if_true], q2⟩, fun j hj hne => by simp only [get_put]; rw [if_neg hne, q3.get j hj]⟩
/-! ### The plain law -/
theorem tokA : ∀ (n : Nat) (t : List Nat) (p : Nat) (ws t' : List Nat), t.length ≤ n → (∀ x ∈ t, x < 128) → Tok' (p + (encA t).length) ws t' → Tok' p (encA t ++ ws) (t ++ t')
  | 0, [], p, ws, t', _, _, h => h
  | n + 1, [], p, ws, t', _, _, h => h
  | n + 1, [a], p, ws, t', _, hl, h => .chr p a ws t' (hl a (by simp)) h
  | n + 1, a :: b :: l, p, ws, t', hn, hl, h => by
    simp only [List.length_cons] at hn
    rw [encA] at h ⊢
    split at h
    · rename_i hd
      rw [if_pos hd]
      simp only [digit, Bool.and_eq_true, decide_eq_true_eq] at hd
      rw [List.length_cons] at h
      have := Tok'.dig p (a - 48) (b - 48) (encA l ++ ws) (l ++ t') (by omega) (by omega) (tokA n l (p + 1) ws t' (by omega) (fun x hx => hl x (by simp [hx])) (by rw [show p + 1 + (encA l).length = p + ((encA l).length + 1) by omega]; exact h))
      rw [show 48 + (a - 48) = a by omega, show 48 + (b - 48) = b by omega] at this
      exact this
    · rename_i hd
      rw [if_neg hd]
      rw [List.length_cons] at h
      exact .chr p a (encA (b :: l) ++ ws) (b :: l ++ t') (hl a (by simp)) (tokA n (b :: l) (p + 1) ws t' (by simp only [List.length_cons]; omega) (fun x hx => hl x (List.mem_cons_of_mem _ hx)) (by rw [show p + 1 + (encA (b :: l)).length = p + ((encA (b :: l)).length + 1) by omega]; exact h))
theorem tokS {mode p : Nat} {t ws vs t' : List Nat} (hs : Seg mode p t ws) (ht : t ≠ []) (h20 : mode ≠ 0 → t.length ≤ 20) (hl : ∀ x ∈ t, x < 128) (h : Tok' (p + ws.length) vs t') : Tok' p (ws ++ vs) (t ++ t') := by
  rcases hs with ⟨_, rfl⟩ | ⟨_, rfl, hok⟩ | ⟨hm, rfl⟩ | ⟨hm, l, hT, h3, h0, rfl⟩
  · exact tokA _ t p vs t' (Nat.le_refl _) hl h
  · exact .edi p t vs t' hok h
  · exact .byt p t vs t' (h20 (by omega)) ht hl h
  · exact .tri p mode t l vs t' hm hT h3 h0 h
theorem tokAll : ∀ {p : Nat} {t ws rest : List Nat}, Chunks p t ws → (∀ x ∈ t, x < 128) → 2 ≤ rest.length → Tok' p (ws ++ 129 :: rest) t := by
  intro p t ws rest hc
  induction hc with
  | nil p => intro _ h2; exact .done p rest h2
  | seg p mode t t' ws ws' hs ht h20 hr ih =>
    intro hl h2
    rw [List.append_assoc]
    exact tokS hs ht h20 (fun x hx => hl x (by simp [hx])) (ih (fun x hx => hl x (by simp [hx])) h2)
theorem encA_lt : ∀ (n : Nat) (t : List Nat), t.length ≤ n → (∀ x ∈ t, x < 128) → ∀ y ∈ encA t, y < 256
  | 0, [], _, _, y, hy => by simp [encA] at hy
  | n + 1, [], _, _, y, hy => by simp [encA] at hy
  | n + 1, [a], _, hl, y, hy => by
    have := hl a (by simp)
    simp [encA] at hy; omega
  | n + 1, a :: b :: l, hn, hl, y, hy => by
    simp only [List.length_cons] at hn
    have ha := hl a (by simp)
    rw [encA] at hy
    split at hy
    · rename_i hd
      simp only [digit, Bool.and_eq_true, decide_eq_true_eq] at hd
      rcases List.mem_cons.1 hy with rfl | hy
      · omega
      · exact encA_lt n l (by omega) (fun x hx => hl x (by simp [hx])) y hy
    · rcases List.mem_cons.1 hy with rfl | hy
      · omega
      · exact encA_lt n (b :: l) (by simp only [List.length_cons]; omega) (fun x hx => hl x (List.mem_cons_of_mem _ hx)) y hy
theorem go6_lt : ∀ (L : List Nat) (acc cnt : Nat), (cnt = 0 ∨ cnt = 2 ∨ cnt = 4 ∨ cnt = 6) → acc < 2 ^ cnt → (∀ x ∈ L, x < 64) → ∀ y ∈ go6 acc cnt L, y < 256
  | [], acc, cnt, hc, ha, _, y, hy => by
    rw [go6] at hy
    split at hy
    · simp at hy; omega
    · simp at hy
  | x :: L, acc, cnt, hc, ha, hL, y, hy => by
    have hx := hL x (by simp)
    have hLL : ∀ x ∈ L, x < 64 := fun z hz => hL z (by simp [hz])
    rw [go6] at hy
    rcases hc with rfl | rfl | rfl | rfl
    · rw [if_neg (by omega)] at hy
      exact go6_lt L _ 6 (by omega) (by simp at ha ⊢; omega) hLL y hy
    · rw [if_pos (by omega)] at hy
      rcases List.mem_cons.1 hy with rfl | hy
      · simp at ha ⊢; omega
      · exact go6_lt L _ 0 (by omega) (by simp; omega) hLL y hy
    · rw [if_pos (by omega)] at hy
      rcases List.mem_cons.1 hy with rfl | hy
      · simp at ha ⊢; omega
      · exact go6_lt L _ 2 (by omega) (by simp; omega) hLL y hy
    · rw [if_pos (by omega)] at hy
      rcases List.mem_cons.1 hy with rfl | hy
      · simp at ha ⊢; omega
      · exact go6_lt L _ 4 (by omega) (by simp; omega) hLL y hy
theorem rz_lt : ∀ (l : List Nat) (b : Nat), ∀ y ∈ rz b l, y < 256
  | [], _, y, hy => by simp [rz] at hy
  | x :: l, b, y, hy => by
    rw [rz] at hy
    rcases List.mem_cons.1 hy with rfl | hy
    · omega
    · exact rz_lt l _ y hy
theorem pairs_lt : ∀ (n : Nat) (l : List Nat), l.length ≤ n → (∀ x ∈ l, x < 40) → ∀ y ∈ pairs l, y < 256
  | 0, [], _, _, y, hy => by simp [pairs] at hy
  | n + 1, [], _, _, y, hy => by simp [pairs] at hy
  | n + 1, [_], _, _, y, hy => by simp [pairs] at hy
  | n + 1, [_, _], _, _, y, hy => by simp [pairs] at hy
  | n + 1, a :: b :: c :: l, hn, hl, y, hy => by
    simp only [List.length_cons] at hn
    have ha := hl a (by simp)
    have hb := hl b (by simp)
    have hc := hl c (by simp)
    rw [pairs] at hy
    rcases List.mem_cons.1 hy with rfl | hy
    · omega
    · rcases List.mem_cons.1 hy with rfl | hy
      · omega
      · exact pairs_lt n l (by omega) (fun x hx => hl x (by simp [hx])) y hy
theorem segLt {mode p : Nat} {t ws : List Nat} (hs : Seg mode p t ws) (hl : ∀ x ∈ t, x < 128) : ∀ y ∈ ws, y < 256 := by
  intro y hy
  rcases hs with ⟨_, rfl⟩ | ⟨_, rfl, hok⟩ | ⟨hm, rfl⟩ | ⟨hm, l, hT, h3, h0, rfl⟩
  · exact encA_lt _ t (Nat.le_refl _) hl y hy
  · rcases List.mem_cons.1 hy with rfl | hy
    · omega
    · exact go6_lt _ 0 0 (by omega) (by simp) (fun x hx => by unfold sext at hx; simp at hx; omega) y hy
  · rcases List.mem_cons.1 hy with rfl | hy
    · omega
    · exact rz_lt _ _ y hy
  · rcases List.mem_cons.1 hy with rfl | hy
    · unfold latch; split
      · omega
      · split <;> omega
    · rw [List.mem_append] at hy
      rcases hy with hy | hy
      · exact pairs_lt _ l (Nat.le_refl _) hT.lt y hy
      · simp at hy; omega
theorem chunksLt {p : Nat} {t ws : List Nat} (hc : Chunks p t ws) (hl : ∀ x ∈ t, x < 128) : ∀ y ∈ ws, y < 256 := by
  induction hc with
  | nil p => intro y hy; simp at hy
  | seg p mode t t' ws ws' hs ht h20 hr ih =>
    intro y hy
    rw [List.mem_append] at hy
    rcases hy with hy | hy
    · exact segLt hs (fun x hx => hl x (by simp [hx])) y hy
    · exact ih (fun x hx => hl x (by simp [hx])) y hy
theorem chunksNe {p : Nat} {t ws : List Nat} (hc : Chunks p t ws) (ht : t ≠ []) : ws ≠ [] := by
  cases hc with
  | nil => exact absurd rfl ht
  | seg _ mode t t' ws ws' hs hne h20 hr => have := hs.ne hne; simp [this]
end Go.Proofs.YtcnallabiffemaaGreatDoor.Vm
