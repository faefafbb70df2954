/- The abstract machine's operations that make memory: each arm. Conditions: the frame and the heap stand for the real ones. -/
import Derived.Test.YtcnallabiffemaaGreatDoorVmF
namespace Go.Proofs.YtcnallabiffemaaGreatDoor.Vm
open Go Go.RowKit

theorem ofVal_scalar {v : Value} {x : AV} (h : ofVal v = some x) : scalar x = true := by
  unfold ofVal at h
  split at h <;> first | (cases h; rfl) | cases h
theorem zero1_some {P : Program} {t : Nat} {z : AV} (h : zero1 P t = some z) (ρ : Env) : ∃ i, P.info? t = some i ∧ i.zero = some (conc ρ z) ∧ scalar z = true ∧ ∀ n, ok n z := by
  unfold zero1 at h
  cases hi : P.info? t with
  | none => simp [hi] at h
  | some i =>
    cases hz : i.zero with
    | none => simp [hi, hz] at h
    | some v =>
      simp [hi, hz] at h
      exact ⟨i, rfl, by rw [(ofVal_some h ρ 0).1]; exact hz, ofVal_scalar h, fun n => (ofVal_some h ρ n).2⟩
theorem toAV_some' {ρ : Env} {n : Nat} : ∀ {l : List Value} {z : List AV}, l.mapM ofVal = some z → ok n (toAV z) ∧ concL ρ (toAV z) = l := by
  intro l
  induction l with
  | nil => intro z h; cases h; exact ⟨trivial, rfl⟩
  | cons x l ih =>
    intro z h
    rw [List.mapM_cons] at h
    cases hx : ofVal x with
    | none => simp [hx] at h
    | some y =>
      cases hl : l.mapM ofVal with
      | none => simp [hx, hl] at h
      | some m =>
        simp [hx, hl] at h
        subst h
        obtain ⟨h1, h2⟩ := ih hl
        obtain ⟨h3, h4⟩ := ofVal_some hx ρ n
        exact ⟨⟨h4, h1⟩, by show conc ρ y :: concL ρ (toAV m) = _; rw [h3, h2]⟩
theorem zeroL_some {P : Program} {t : Nat} {z : List AV} (h : zeroL P t = some z) {i : TypeInfo} (hi : P.info? t = some i) {ρ : Env} {n : Nat} : ∃ cs, i.zero = some (.agg cs) ∧ concL ρ (toAV z) = cs.toList ∧ ok n (toAV z) := by
  unfold zeroL at h
  simp only [hi, Option.bind_some] at h
  split at h
  · rename_i cs hz
    obtain ⟨h1, h2⟩ := toAV_some' (ρ := ρ) (n := n) h
    exact ⟨cs, hz, h2, h1⟩
  · cases h
theorem below_push {base : Nat} {w w' : World} (hos : w'.os = w.os) (ht : w'.tape = w.tape) (hou : w'.output = w.output) (hb : base ≤ w.heap.size) {o : Obj} (hw : w'.heap = w.heap.push o) : Below base w w' :=
  ⟨hos, ht, hou, by rw [hw]; simp, fun c hc => by rw [hw, Array.getElem?_push, if_neg (by omega)]⟩
theorem push_new {w w' : World} {o : Obj} (hw : w'.heap = w.heap.push o) : w'.heap[w.heap.size]? = some o := by rw [hw]; simp
theorem row_full {ρ : Env} {n size d : Nat} {z : AV} {c : Array Value} (hz : ok n z) (hs : scalar z = true) (hc : ∀ j, j < size → c[j]? = some (conc ρ z)) : Row ρ n size (T.full (some z) d) c :=
  fun j hj v hv => by
    have := get_full hv
    cases this
    exact ⟨hz, hs, hc j hj⟩
theorem row_one {ρ : Env} {n d : Nat} {z : AV} (hz : ok n z) (hs : scalar z = true) : Row ρ n 1 (T.full (some z) d) #[conc ρ z] :=
  row_full hz hs fun j hj => by
    have : j = 0 := by omega
    subst this
    rfl
section
variable {P : Program} {ρ : Env} {nt : Nat} {rg : T AV} {a : Act} {w : World} {k : T AV → AH → R} {r : AV × AH} {o : Oper} {base : Nat} {h : AH} (hr : RR ρ h.next nt rg a) (hh : HR ρ base h w)
include hr hh
theorem wAlloc_some {t : Nat} (h1 : wAlloc P nt rg h o.dst k t = some r) (ho : o.op = .alloc t) : Wrote P ρ base h w nt k r a o := by
  cases hone : one P t with
  | true =>
    unfold wAlloc at h1
    rw [hone] at h1
    obtain ⟨z, h2, h3⟩ := opt_some h1
    obtain ⟨i, hi, hz, hs, hok⟩ := zero1_some h2 ρ
    have hrun : (execOp a.eval o).run P w = .ok (.value (.pointer (some ⟨w.heap.size, 0, none⟩))) (w.alloc (.cells #[conc ρ z] t)) := by
      simp [execOp, ho, Instr.alloc, zeroValue, typeInfo, hi, hz, newVar, newRow, scalar_cells hs]
    refine ⟨_, _, .inl hrun, ?_⟩
    have := wNew_alloc (c := 0) h3 hr hh (w' := w.alloc (.cells #[conc ρ z] t)) rfl (below_push rfl rfl rfl hh.room rfl)
      ⟨#[conc ρ z], by rw [up_σ]; exact push_new rfl, rfl, (row_one (ρ := ρ) (hok _) hs).ext (up_ext ρ _ _ _) (Nat.le_succ _)⟩ (Nat.lt_succ_self _)
    simpa [conc, up_σ] using this
  | false =>
    unfold wAlloc at h1
    rw [hone] at h1
    obtain ⟨sz, hst, h2⟩ := opt_some h1
    obtain ⟨fs, i, hus, hi, hs⟩ := structSize_some hst
    obtain ⟨z, hz, h3⟩ := opt_some h2
    obtain ⟨cz, hcz, hzl, hzo⟩ := zeroL_some hz hi (ρ := ρ) (n := h.next)
    obtain ⟨cs, m, h4, h5, _, h6⟩ := putL_some (ρ := ρ) (n := h.next) _ _ 0 _ h3 hzo
    obtain ⟨h7, h8⟩ := when_some h4
    have hm : m = sz := Nat.eq_of_beq_eq_true h7
    have hrun : (execOp a.eval o).run P w = .ok (.value (.pointer (some ⟨w.heap.size, 0, none⟩))) (w.alloc (.cells cz t)) := by
      simp [execOp, ho, Instr.alloc, zeroValue, typeInfo, hi, hcz, newVar, newRow, Value.cells]
    refine ⟨_, _, .inl hrun, ?_⟩
    have := wNew_alloc (c := 0) h8 hr hh (w' := w.alloc (.cells cz t)) rfl (below_push rfl rfl rfl hh.room rfl)
      ⟨cz, by rw [up_σ]; exact push_new rfl, by rw [← Array.length_toList, ← hzl]; omega, Row.ext (ρ := ρ) (n := h.next) (fun j hj y hy => by
        rcases h6 j y hy with ⟨_, _, a3, a4, a5⟩ | ⟨_, a2⟩
        · refine ⟨a3, a4, ?_⟩
          rw [hzl] at a5
          simpa using a5
        · cases hb : bits j <;> (rw [show T.get (T.leaf : T AV) j = T.getB (bits j) .leaf from rfl, getB_leaf] at a2; cases a2)) (up_ext ρ _ _ _) (Nat.le_succ _)⟩ (Nat.lt_succ_self _)
    simpa [conc, up_σ] using this
theorem wBox_some {t : Nat} {x : Operand} (h1 : wBox nt rg h o.dst k t x = some r) (ho : o.op = .box t x) : Wrote P ρ base h w nt k r a o := by
  obtain ⟨v, h2, h3, h4⟩ := oe_some h1 hr
  have hrun : (execOp a.eval o).run P w = .ok (.value (.pointer (some ⟨w.heap.size, 0, none⟩))) (w.alloc (.cells (conc ρ v).cells t)) := by
    simp [execOp, ho, Instr.box, newVar, newRow, h4]
  refine ⟨_, _, .inl hrun, ?_⟩
  rcases onBox_some h2 with ⟨l, rfl, h5⟩ | ⟨hs, h5⟩
  · obtain ⟨cs, m, h6, h7, _, h8⟩ := putL_some (ρ := ρ) (n := h.next) l _ 0 _ h5 h3
    have := wNew_alloc (c := 0) h6 hr hh (w' := w.alloc (.cells (concL ρ l).toArray t)) rfl (below_push rfl rfl rfl hh.room rfl)
      ⟨(concL ρ l).toArray, by rw [up_σ]; exact push_new rfl, by simp [h7], Row.ext (ρ := ρ) (n := h.next) (fun j hj y hy => by
        rcases h8 j y hy with ⟨_, _, a3, a4, a5⟩ | ⟨_, a2⟩
        · exact ⟨a3, a4, by simpa using a5⟩
        · exact absurd (get_full a2) (by simp)) (up_ext ρ _ _ _) (Nat.le_succ _)⟩ (Nat.lt_succ_self _)
    simpa [conc, up_σ, Value.cells] using this
  · have := wNew_alloc (c := 0) h5 hr hh (w' := w.alloc (.cells #[conc ρ v] t)) rfl (below_push rfl rfl rfl hh.room rfl)
      ⟨#[conc ρ v], by rw [up_σ]; exact push_new rfl, rfl, (row_one (ρ := ρ) h3 hs).ext (up_ext ρ _ _ _) (Nat.le_succ _)⟩ (Nat.lt_succ_self _)
    rw [scalar_cells hs]
    simpa [conc, up_σ] using this
omit hh in
theorem partsL_some {len : Nat} {k : T AV → R} : ∀ (l : List (Nat × Operand)) (cs : T AV) (c : Array Value), partsL rg len l cs k = some r → c.size = len → Row ρ h.next len cs c →
    ∃ cs' c', k cs' = some r ∧ Instr.fill (fun i => some (i * 1, 1)) c (l.map fun ix => (ix.1, a.eval ix.2)) = some c' ∧ c'.size = len ∧ Row ρ h.next len cs' c' := by
  intro l
  induction l with
  | nil => intro cs c h1 hc hrow; exact ⟨cs, c, h1, by simp [Instr.fill], hc, hrow⟩
  | cons ix l ih =>
    intro cs c h1 hc hrow
    obtain ⟨v, h2, h3, h4⟩ := oe_some (show oe rg ix.2 (fun v => when (scalar v) (when (Nat.blt ix.1 len) (T.setK cs ix.1 v fun cs => partsL rg len l cs k))) = some r from h1) hr
    obtain ⟨h5, h6⟩ := when_some h2
    obtain ⟨h7, h8⟩ := when_some h6
    have hlt : ix.1 < len := by simpa [Nat.blt_eq] using h7
    obtain ⟨cs1, h9, hset⟩ := setK_some h8
    obtain ⟨cs', c', h10, h11, h12, h13⟩ := ih cs1 (c.setIfInBounds ix.1 (conc ρ v)) h9 (by simpa using hc) (fun j hj y hy => by
      rw [hset] at hy
      by_cases ej : j = ix.1
      · rw [if_pos ej] at hy
        cases hy
        exact ⟨h3, h5, by rw [ej]; simp [hc, hlt]⟩
      · rw [if_neg ej] at hy
        obtain ⟨a1, a2, a3⟩ := hrow j hj y hy
        exact ⟨a1, a2, by rw [Array.getElem?_setIfInBounds_ne (fun e => ej e.symm)]; exact a3⟩)
    refine ⟨cs', c', h10, ?_, h12, h13⟩
    rw [← h11]
    simp only [List.map_cons, Instr.fill, h4, scalar_cells h5]
    rw [if_neg (by simp; omega)]
    simp
omit hr hh in
theorem fold_list (off : Nat) : ∀ (l : List Value) (k : Nat) (c : Array Value), off + k + l.length ≤ c.size →
    ((l.zipIdx k).foldl (fun cs (p : Value × Nat) => cs.setIfInBounds (off + p.2) p.1) c).size = c.size ∧
    ∀ j, ((l.zipIdx k).foldl (fun cs (p : Value × Nat) => cs.setIfInBounds (off + p.2) p.1) c)[j]? = if off + k ≤ j ∧ j < off + k + l.length then l[j - off - k]? else c[j]? := by
  intro l
  induction l with
  | nil => intro k c _; refine ⟨rfl, fun j => ?_⟩; rw [if_neg (by simp)]; rfl
  | cons x l ih =>
    intro k c hc
    simp only [List.length_cons] at hc
    obtain ⟨h1, h2⟩ := ih (k + 1) (c.setIfInBounds (off + k) x) (by simp; omega)
    refine ⟨by simpa using h1, fun j => ?_⟩
    have h3 := h2 j
    simp only [List.zipIdx_cons, List.foldl_cons]
    rw [h3]
    by_cases e1 : off + (k + 1) ≤ j ∧ j < off + (k + 1) + l.length
    · rw [if_pos e1, if_pos ⟨by omega, by simp only [List.length_cons]; omega⟩, show j - off - k = (j - off - (k + 1)) + 1 by omega]
      rfl
    · rw [if_neg e1]
      by_cases e2 : j = off + k
      · subst e2
        rw [if_pos ⟨Nat.le_refl _, by simp only [List.length_cons]; omega⟩, show off + k - off - k = 0 by omega]
        simp [show off + k < c.size by omega]
      · rw [Array.getElem?_setIfInBounds_ne (fun e => e2 e.symm), if_neg (by simp only [List.length_cons]; omega)]
omit hr hh in
theorem fold_array (off : Nat) (vs c : Array Value) (h : off + vs.size ≤ c.size) :
    (vs.zipIdx.foldl (fun cs (p : Value × Nat) => cs.setIfInBounds (off + p.2) p.1) c).size = c.size ∧
    ∀ j, (vs.zipIdx.foldl (fun cs (p : Value × Nat) => cs.setIfInBounds (off + p.2) p.1) c)[j]? = if off ≤ j ∧ j < off + vs.size then vs[j - off]? else c[j]? := by
  have := fold_list off vs.toList 0 c (by simpa using h)
  rw [← Array.foldl_toList, Array.toList_zipIdx]
  simpa using this
omit hh in
theorem partsA_some {len sz : Nat} {k : T AV → R} : ∀ (l : List (Nat × Operand)) (cs : T AV) (c : Array Value), partsA rg len sz l cs k = some r → c.size = len * sz → Row ρ h.next (len * sz) cs c →
    ∃ cs' c', k cs' = some r ∧ Instr.fill (fun i => some (i * sz, sz)) c (l.map fun ix => (ix.1, a.eval ix.2)) = some c' ∧ c'.size = len * sz ∧ Row ρ h.next (len * sz) cs' c' := by
  intro l
  induction l with
  | nil => intro cs c h1 hc hrow; exact ⟨cs, c, h1, by simp [Instr.fill], hc, hrow⟩
  | cons ix l ih =>
    intro cs c h1 hc hrow
    obtain ⟨v, h2, h3, h4⟩ := oe_some (show oe rg ix.2 (fun v => onAg v fun m => when (Nat.blt ix.1 len) (putL m cs (Nat.mul ix.1 sz) fun cs n => when (Nat.beq n (Nat.mul (Nat.succ ix.1) sz)) (partsA rg len sz l cs k))) = some r from h1) hr
    obtain ⟨m, rfl, h5⟩ := onAg_some h2
    obtain ⟨h7, h8⟩ := when_some h5
    have hlt : ix.1 < len := by simpa [Nat.blt_eq] using h7
    obtain ⟨cs1, q, h9, h10, h11, hset⟩ := putL_some (ρ := ρ) (n := h.next) m cs (ix.1 * sz) _ h8 h3
    obtain ⟨h12, h13⟩ := when_some h9
    have hq : q = (ix.1 + 1) * sz := Nat.eq_of_beq_eq_true h12
    have hle : (ix.1 + 1) * sz ≤ len * sz := Nat.mul_le_mul_right sz hlt
    have hq' : q = ix.1 * sz + sz := by rw [hq, Nat.add_mul, Nat.one_mul]
    have hle' : ix.1 * sz + sz ≤ len * sz := by rw [Nat.add_mul, Nat.one_mul] at hle; exact hle
    have hl : (concL ρ m).length = sz := by omega
    generalize hoff : ix.1 * sz = off at *
    obtain ⟨f1, f2⟩ := fold_array off (concL ρ m).toArray c (by simp only [List.size_toArray]; omega)
    obtain ⟨cs', c', h14, h15, h16, h17⟩ := ih cs1 _ h13 (f1.trans hc) (fun j hj y hy => by
      rw [f2 j]
      rcases hset j y hy with ⟨b1, b2, b3, b4, b5⟩ | ⟨b1, b2⟩
      · rw [if_pos ⟨b1, by simp only [List.size_toArray]; omega⟩]
        exact ⟨b3, b4, by simpa using b5⟩
      · rw [if_neg (by simp only [List.size_toArray]; omega)]
        exact hrow j hj y b2)
    refine ⟨cs', c', h14, ?_, h16, h17⟩
    rw [← h15]
    simp only [List.map_cons, Instr.fill, h4, conc, Value.cells, hoff]
    rw [if_neg (by simp only [Bool.or_eq_true, decide_eq_true_eq, List.size_toArray]; omega)]
omit hr hh in
/-- A slice literal, the empty one too. -/
theorem run_lit (w : World) (t e : TypeId) (len : Nat) (parts : Array (Nat × Value)) (cells : Array Value) (ie : TypeInfo) (z : Value)
    (hu : P.underlying t = some (.slice e)) (hie : P.info? e = some ie) (hz : ie.zero = some z) (hsmall : ¬ len * ie.size > 2 ^ 24)
    (h : Instr.fill (fun i => some (i * ie.size, ie.size)) ((Array.range (len * ie.size)).map (z.cells[· % z.cells.size]!)) parts.toList = some cells) :
    (Instr.buildSlice t len parts).run P w = .ok (.slice (some ⟨w.heap.size, 0, none⟩) len len) (w.alloc (.cells cells e)) := by
  by_cases h0 : len * ie.size = 0
  · have hr0 : ∀ (f : Nat → Value), (Array.range 0).map f = #[] := fun f => Array.eq_empty_of_size_eq_zero (by rw [Array.size_map, Array.size_range])
    have h' : Instr.fill (fun i => some (i * ie.size, ie.size)) #[] parts.toList = some cells := by
      rw [h0, hr0] at h; exact h
    simp [Instr.buildSlice, run_underlying hu, sizeOf, typeInfo, hie, h0, h', hr0, newRow]
  · exact run_buildSlice w t e len parts cells ie z hu hie hz hsmall h0 h
theorem wBuild_some {t len : Nat} {parts : Array (Nat × Operand)} (h1 : wBuild P nt rg h o.dst k t len parts = some r) (ho : o.op = .buildSlice t len parts) : Wrote P ρ base h w nt k r a o := by
  obtain ⟨e, h2, h3⟩ := opt_some h1
  have hu := elemOf_some h2
  obtain ⟨h6, h3⟩ := when_some h3
  have hlt : len < 100000 := by simpa [Nat.blt_eq] using h6
  cases hone : one P e with
  | true =>
    rw [hone] at h3
    obtain ⟨i, _, hi, _, hs, _⟩ := one_some hone
    obtain ⟨z, h8, h9⟩ := opt_some h3
    obtain ⟨i', hi', hz, hsz, hok⟩ := zero1_some h8 ρ
    obtain rfl : i' = i := Option.some.inj (hi'.symm.trans hi)
    obtain ⟨cs', c', h10, h11, h12, h13⟩ := partsL_some hr parts.toList (T.full (some z) depthC) ((Array.range (len * 1)).map ((conc ρ z).cells[· % (conc ρ z).cells.size]!)) h9 (by simp)
      (row_full (hok _) hsz (fun j hj => by simp [scalar_cells hsz, hj, Nat.mod_one]))
    have hfill : Instr.fill (fun j => some (j * i'.size, i'.size)) ((Array.range (len * i'.size)).map ((conc ρ z).cells[· % (conc ρ z).cells.size]!)) (parts.map fun (j, x) => (j, a.eval x)).toList = some c' := by
      rw [hs, ← h11]
      congr 1
      simp
    have hrun : (execOp a.eval o).run P w = .ok (.value (.slice (some ⟨w.heap.size, 0, none⟩) len len)) (w.alloc (.cells c' e)) := by
      have := run_lit w t e len (parts.map fun (j, x) => (j, a.eval x)) c' i' (conc ρ z) hu hi hz (by rw [hs]; omega) hfill
      simp only [execOp, ho, Sem.run_bind, this]
      rfl
    refine ⟨_, _, .inl hrun, ?_⟩
    have := wNew_alloc (c := 0) h10 hr hh (w' := w.alloc (.cells c' e)) rfl (below_push rfl rfl rfl hh.room rfl) ⟨c', by rw [up_σ]; exact push_new rfl, h12, h13.ext (up_ext ρ _ _ _) (Nat.le_succ _)⟩ (Nat.lt_succ_self _)
    simpa [conc, up_σ] using this
  | false =>
    rw [hone] at h3
    obtain ⟨sz, hst, h4⟩ := opt_some h3
    obtain ⟨fs, i, hus, hi, hs⟩ := structSize_some hst
    obtain ⟨hpl, h5⟩ := when_some h4
    obtain ⟨hsz, h7⟩ := when_some h5
    have hsz' : sz < 100 := by simpa [Nat.blt_eq] using hsz
    obtain ⟨z, hz, h8⟩ := opt_some h7
    obtain ⟨hzl, h9⟩ := when_some h8
    obtain ⟨cz, hcz, hzc, hzo⟩ := zeroL_some hz hi (ρ := ρ) (n := h.next)
    have hmul : len * sz ≤ 100000 * 100 := Nat.mul_le_mul (by omega) (by omega)
    obtain ⟨cs', c', h10, h11, h12, h13⟩ := partsA_some hr parts.toList .leaf ((Array.range (len * sz)).map (cz[· % cz.size]!)) h9 (by simp)
      (fun j hj y hy => by rw [show T.get (T.leaf : T AV) j = T.getB (bits j) .leaf from rfl, getB_leaf] at hy; cases hy)
    have hfill : Instr.fill (fun j => some (j * i.size, i.size)) ((Array.range (len * i.size)).map ((Value.agg cz).cells[· % (Value.agg cz).cells.size]!)) (parts.map fun (j, x) => (j, a.eval x)).toList = some c' := by
      rw [hs, ← h11]
      congr 1
      simp
    have hrun : (execOp a.eval o).run P w = .ok (.value (.slice (some ⟨w.heap.size, 0, none⟩) len len)) (w.alloc (.cells c' e)) := by
      have := run_lit w t e len (parts.map fun (j, x) => (j, a.eval x)) c' i (.agg cz) hu hi hcz (by rw [hs]; omega) hfill
      simp only [execOp, ho, Sem.run_bind, this]
      rfl
    refine ⟨_, _, .inl hrun, ?_⟩
    have := wNew_alloc (c := 0) h10 hr hh (w' := w.alloc (.cells c' e)) rfl (below_push rfl rfl rfl hh.room rfl) ⟨c', by rw [up_σ]; exact push_new rfl, h12, h13.ext (up_ext ρ _ _ _) (Nat.le_succ _)⟩ (Nat.lt_succ_self _)
    simpa [conc, up_σ] using this
omit hr hh in
theorem small_some {e : Nat} {i : TypeInfo} (h1 : small P e = true) (hi : P.info? e = some i) : i.bytes ≤ 4096 := by
  simp only [small, hi] at h1
  exact Nat.le_of_ble_eq_true h1
theorem wMake_some {t : Nat} {l c : Operand} (h1 : wMake P nt rg h o.dst k t l c = some r) (ho : o.op = .makeSlice t l c) : Wrote P ρ base h w nt k r a o := by
  obtain ⟨e, h2, h3⟩ := opt_some h1
  have hu := elemOf_some h2
  obtain ⟨h4, h5⟩ := when_some h3
  simp only [Bool.and_eq_true] at h4
  obtain ⟨i, _, hi, _, hs, _⟩ := one_some h4.1
  have hby := small_some h4.2 hi
  obtain ⟨vl, h6, _, h7⟩ := oe_some h5 hr
  obtain ⟨vc, h8, _, h9⟩ := oe_some h6 hr
  obtain ⟨kl, nl, rfl, h10⟩ := onI_some h8
  obtain ⟨kc, nc, rfl, h11⟩ := onI_some h10
  obtain ⟨_, h12⟩ := when_some h11
  obtain ⟨_, h13⟩ := when_some h12
  rcases nat2_some h13 with ⟨nl, nc, rfl, rfl, h14⟩ | h14
  · obtain ⟨h15, h16⟩ := when_some h14
    obtain ⟨h17, h20⟩ := when_some h16
    obtain ⟨z, h21, h22⟩ := opt_some h20
    obtain ⟨i', hi', hz, hsz, hok⟩ := zero1_some h21 ρ
    obtain rfl : i' = i := Option.some.inj (hi'.symm.trans hi)
    have hle : nl ≤ nc := Nat.le_of_ble_eq_true h15
    have hlt : nc < 100000 := by simpa [Nat.blt_eq] using h17
    have hmul : i'.bytes * nc ≤ 4096 * 100000 := Nat.mul_le_mul hby (by omega)
    have hmul' : (i'.bytes : Int) * (nc : Int) ≤ 281474976710656 := by rw [← Int.natCast_mul]; omega
    have hrun : (execOp a.eval o).run P w = .ok (.value (.slice (some ⟨w.heap.size, 0, none⟩) nl nc)) (w.alloc (.cells (madeCells (conc ρ z).cells nc) e)) := by
      have := run_make w t e i' (conc ρ z) hu hi hz kl kc nl nc (by omega) (by omega) hmul' (by omega)
      simp only [hs, Int.toNat_natCast, Nat.mul_one] at this
      simp only [execOp, ho, h7, h9, conc, Sem.run_bind]
      rw [show (Int.ofNat nl) = (nl : Int) from rfl, show (Int.ofNat nc) = (nc : Int) from rfl, this]
      rfl
    refine ⟨_, _, .inl hrun, ?_⟩
    have := wNew_alloc (c := 0) h22 hr hh (w' := w.alloc (.cells (madeCells (conc ρ z).cells nc) e)) rfl (below_push rfl rfl rfl hh.room rfl)
      ⟨madeCells (conc ρ z).cells nc, by rw [up_σ]; exact push_new rfl, size_madeCells _ _, (row_full (hok _) hsz (fun j hj => by simp [madeCells, scalar_cells hsz, hj, Nat.mod_one])).ext (up_ext ρ _ _ _) (Nat.le_succ _)⟩ (Nat.lt_succ_self _)
    simpa [conc, up_σ] using this
  · cases h14
end
end Go.Proofs.YtcnallabiffemaaGreatDoor.Vm
