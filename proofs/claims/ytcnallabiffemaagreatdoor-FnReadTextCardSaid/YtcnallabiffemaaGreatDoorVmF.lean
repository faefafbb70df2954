/- The abstract machine's operations that write: each arm. Conditions: the frame and the heap stand for the real ones. -/
import Derived.Test.YtcnallabiffemaaGreatDoorVmE
import Derived.Laws.MakeOwn
import Derived.Laws.CopyRow
import Derived.Laws.AppendOwn
import Derived.Great.BuildSlice
import Derived.Lib.OthersKept
namespace Go.Proofs.YtcnallabiffemaaGreatDoor.Vm
open Go Go.RowKit

def Env.up (ρ : Env) (i b c : Nat) : Env := ⟨fun j => if j = i then b else ρ.σ j, fun j => if j = i then c else ρ.κ j⟩
theorem up_ext (ρ : Env) (n b c : Nat) : Ext ρ n (ρ.up n b c) := fun i hi => by
  have : i ≠ n := by omega
  simp [Env.up, this]
theorem up_σ (ρ : Env) (n b c : Nat) : (ρ.up n b c).σ n = b := by simp [Env.up]
theorem up_κ (ρ : Env) (n b c : Nat) : (ρ.up n b c).κ n = c := by simp [Env.up]

/-- A new id. -/
theorem HR.add {ρ : Env} {base : Nat} {h : AH} {w w' : World} (hh : HR ρ base h w) {objs' : T AO} {ob : AO} {b c : Nat}
    (hset : ∀ j, T.get objs' j = if j = h.next then some ob else T.get h.objs j) (hsz : w.heap.size ≤ w'.heap.size) (hb : base ≤ b ∧ b < w'.heap.size)
    (hne : ∀ j o, T.get h.objs j = some o → o ≠ .dead → ρ.σ j ≠ b) (hk : ∀ j o, T.get h.objs j = some o → o ≠ .dead → w'.heap[ρ.σ j]? = w.heap[ρ.σ j]?)
    (hor : OR (ρ.up h.next b c) (h.next + 1) h.next w' ob) : HR (ρ.up h.next b c) base ⟨objs', h.next + 1⟩ w' := by
  have he := up_ext ρ h.next b c
  have old : ∀ j o, T.get objs' j = some o → j ≠ h.next → T.get h.objs j = some o := fun j o hj hne => by
    rw [hset, if_neg hne] at hj; exact hj
  have new : ∀ o, T.get objs' h.next = some o → o = ob := fun o ho => by
    rw [hset, if_pos rfl] at ho; exact (Option.some.inj ho).symm
  refine ⟨Nat.le_trans hh.room hsz, fun j o hj => ?_, fun j o hj hro => ?_, fun j hj => ?_, fun j o hj => ?_, fun i j o o' hi hj ho ho' hs => ?_⟩
  · by_cases e : j = h.next
    · subst e; show h.next < h.next + 1; omega
    · have := hh.lt j o (old j o hj e); show j < h.next + 1; omega
  · by_cases e : j = h.next
    · subst e; rw [up_σ]; exact hb.1
    · have hj' := old j o hj e
      rw [(he j (hh.lt j o hj')).1]
      exact hh.own j o hj' hro
  · have hj : j < h.next + 1 := hj
    by_cases e : j = h.next
    · subst e; rw [up_σ]; exact hb.2
    · rw [(he j (by omega)).1]
      have := hh.base j (by omega)
      omega
  · by_cases e : j = h.next
    · subst e; rw [new o hj]; exact hor
    · have hj' := old j o hj e
      have hlt := hh.lt j o hj'
      by_cases hd : o = .dead
      · rw [hd]; trivial
      · exact ((hh.obj j o hj').heap (hk j o hj' hd)).ext he (by show h.next ≤ h.next + 1; omega) hlt
  · by_cases e : i = h.next
    · subst e
      by_cases e' : j = h.next
      · exact e'.symm
      · have hj' := old j o' hj e'
        rw [up_σ, (he j (hh.lt j o' hj')).1] at hs
        exact absurd hs.symm (hne j o' hj' ho')
    · have hi' := old i o hi e
      by_cases e' : j = h.next
      · subst e'
        rw [up_σ, (he i (hh.lt i o hi')).1] at hs
        exact absurd hs (hne i o hi' ho)
      · have hj' := old j o' hj e'
        rw [(he i (hh.lt i o hi')).1, (he j (hh.lt j o' hj')).1] at hs
        exact hh.inj i j o o' hi' hj' ho ho' hs
/-- A block's contents told anew. -/
theorem HR.upd {ρ : Env} {base : Nat} {h : AH} {w w' : World} (hh : HR ρ base h w) {id : Nat} {o ob : AO} {objs' : T AO} (hid : T.get h.objs id = some o) (ho : o ≠ .dead) (hro : isRo o = false)
    (hs : w'.heap.size = w.heap.size) (hoth : ∀ b, b ≠ ρ.σ id → w'.heap[b]? = w.heap[b]?) (hset : ∀ j, T.get objs' j = if j = id then some ob else T.get h.objs j) (hob : OR ρ h.next id w' ob) : HR ρ base ⟨objs', h.next⟩ w' := by
  have old : ∀ j o, T.get objs' j = some o → j ≠ id → T.get h.objs j = some o := fun j o hj hne => by
    rw [hset, if_neg hne] at hj; exact hj
  have new : ∀ o, T.get objs' id = some o → o = ob := fun o ho => by
    rw [hset, if_pos rfl] at ho; exact (Option.some.inj ho).symm
  have live : ∀ j o', T.get objs' j = some o' → o' ≠ .dead → ∃ o'', T.get h.objs j = some o'' ∧ o'' ≠ .dead := fun j o' hj hd => by
    by_cases e : j = id
    · subst e; exact ⟨o, hid, ho⟩
    · exact ⟨o', old j o' hj e, hd⟩
  refine ⟨by rw [hs]; exact hh.room, fun j o' hj => ?_, fun j o' hj hro' => ?_, fun j hj => by rw [hs]; exact hh.base j hj, fun j o' hj => ?_, fun i j o1 o2 hi hj h1 h2 hs => ?_⟩
  · by_cases e : j = id
    · subst e; exact hh.lt _ o hid
    · exact hh.lt j o' (old j o' hj e)
  · by_cases e : j = id
    · subst e; exact hh.own _ o hid hro
    · exact hh.own j o' (old j o' hj e) hro'
  · by_cases e : j = id
    · subst e; rw [new o' hj]; exact hob
    · have hj' := old j o' hj e
      by_cases hd : o' = .dead
      · rw [hd]; trivial
      · exact (hh.obj j o' hj').heap (hoth _ fun es => e (hh.inj j id o' o hj' hid hd ho es))
  · obtain ⟨o1', hi', h1'⟩ := live i o1 hi h1
    obtain ⟨o2', hj', h2'⟩ := live j o2 hj h2
    exact hh.inj i j o1' o2' hi' hj' h1' h2' hs
/-- A block forgotten. -/
theorem HR.kill {ρ : Env} {base : Nat} {h : AH} {w : World} (hh : HR ρ base h w) {id : Nat} {o : AO} {objs' : T AO} (hid : T.get h.objs id = some o) (ho : o ≠ .dead) (hro : isRo o = false)
    (hset : ∀ j, T.get objs' j = if j = id then some .dead else T.get h.objs j) : HR ρ base ⟨objs', h.next⟩ w := hh.upd hid ho hro rfl (fun _ _ => rfl) hset trivial

/-! ### What an operation that writes leaves -/
def After (ρ : Env) (base : Nat) (h : AH) (w : World) (nt : Nat) (k : T AV → AH → R) (r : AV × AH) (a' : Act) (w' : World) : Prop :=
  ∃ rg' h' ρ', k rg' h' = some r ∧ Ext ρ h.next ρ' ∧ h.next ≤ h'.next ∧ HR ρ' base h' w' ∧ RR ρ' h'.next nt rg' a' ∧ Below base w w'
def Wrote (P : Program) (ρ : Env) (base : Nat) (h : AH) (w : World) (nt : Nat) (k : T AV → AH → R) (r : AV × AH) (a : Act) (o : Oper) : Prop :=
  ∃ v w', ((execOp a.eval o).run P w = .ok (.value v) w' ∨ ((execOp a.eval o).run P w = .ok .skip w' ∧ v = undef)) ∧ After ρ base h w nt k r (a.put o.dst v) w'
section
variable {P : Program} {ρ : Env} {nt : Nat} {rg : T AV} {a : Act} {w : World} {k : T AV → AH → R} {r : AV × AH} {o : Oper} {base : Nat} {h : AH}
theorem wNew_some {dst : Option Tmp} {ob : AO} {v : Nat → AV} (h1 : wNew nt rg h dst k ob v = some r) (hr : RR ρ h.next nt rg a) (hh : HR ρ base h w) {w' : World} {b c : Nat} (hsz : w.heap.size ≤ w'.heap.size) (hb : base ≤ b ∧ b < w'.heap.size)
    (hne : ∀ j o, T.get h.objs j = some o → o ≠ .dead → ρ.σ j ≠ b) (hk : ∀ j o, T.get h.objs j = some o → o ≠ .dead → w'.heap[ρ.σ j]? = w.heap[ρ.σ j]?)
    (hbel : Below base w w') (hor : OR (ρ.up h.next b c) (h.next + 1) h.next w' ob) (hv : ok (h.next + 1) (v h.next)) :
    After ρ base h w nt k r (a.put dst (conc (ρ.up h.next b c) (v h.next))) w' := by
  obtain ⟨objs', h2, hset⟩ := setK_some (show T.setK h.objs h.next ob (fun t => forceN (Nat.succ h.next) fun n => setR nt rg dst (v h.next) fun rg => k rg ⟨t, n⟩) = some r from h1)
  have h3 : setR nt rg dst (v h.next) (fun rg => k rg ⟨objs', h.next + 1⟩) = some r := h2
  obtain ⟨rg', h4, h5⟩ := setR_some h3 (hr.ext (up_ext ρ h.next b c) (Nat.le_succ _)) hv
  exact ⟨rg', ⟨objs', h.next + 1⟩, _, h4, up_ext _ _ _ _, Nat.le_succ _, hh.add hset hsz hb hne hk hor, h5, hbel⟩
/-- A new block. -/
theorem wNew_alloc {dst : Option Tmp} {ob : AO} {v : Nat → AV} (h1 : wNew nt rg h dst k ob v = some r) (hr : RR ρ h.next nt rg a) (hh : HR ρ base h w) {w' : World} {obj : Obj} {c : Nat} (hw : w'.heap = w.heap.push obj) (hbel : Below base w w')
    (hor : OR (ρ.up h.next w.heap.size c) (h.next + 1) h.next w' ob) (hv : ok (h.next + 1) (v h.next)) :
    After ρ base h w nt k r (a.put dst (conc (ρ.up h.next w.heap.size c) (v h.next))) w' :=
  wNew_some h1 hr hh (by rw [hw]; simp) ⟨hh.room, by rw [hw]; simp⟩ (fun j o hj _ e => by have := hh.base j (hh.lt j o hj); omega)
    (fun j o hj _ => by rw [hw, Array.getElem?_push, if_neg (by have := hh.base j (hh.lt j o hj); omega)]) hbel hor hv
theorem wObj_some {dst : Option Tmp} {ob o0 : AO} {id : Nat} {v : AV} (h1 : wObj nt rg h dst k id ob v = some r) (hr : RR ρ h.next nt rg a) (hh : HR ρ base h w) {w' : World} (hid : T.get h.objs id = some o0) (ho : o0 ≠ .dead) (hro : isRo o0 = false)
    (hs : w'.heap.size = w.heap.size) (hoth : ∀ b, b ≠ ρ.σ id → w'.heap[b]? = w.heap[b]?) (hbel : Below base w w') (hob : OR ρ h.next id w' ob) (hv : ok h.next v) :
    After ρ base h w nt k r (a.put dst (conc ρ v)) w' := by
  obtain ⟨objs', h2, hset⟩ := setK_some h1
  obtain ⟨rg', h4, h5⟩ := setR_some h2 hr hv
  exact ⟨rg', ⟨objs', h.next⟩, ρ, h4, Ext.refl _ _, Nat.le_refl _, hh.upd hid ho hro hs hoth hset hob, h5, hbel⟩
theorem onCells_some {o : AO} {k : Nat → Nat → T AV → R} (h : onCells o k = some r) : ∃ e s c, o = .cells e s c ∧ k e s c = some r := by
  cases o <;> first | exact ⟨_, _, _, rfl, h⟩ | cases h
theorem onGrow_some {o : AO} {k : Nat → Nat → T AV → R} (h : onGrow o k = some r) : ∃ e s c, o = .grow e s c ∧ k e s c = some r := by
  cases o <;> first | exact ⟨_, _, _, rfl, h⟩ | cases h
theorem onIter_some {o : AO} {k : ByteArray → Nat → R} (h : onIter o k = some r) : ∃ s p, o = .iter s p ∧ k s p = some r := by
  cases o <;> first | exact ⟨_, _, rfl, h⟩ | cases h
theorem below_block {w w' : World} (hos : w'.os = w.os) (ht : w'.tape = w.tape) (hou : w'.output = w.output) (hs : w'.heap.size = w.heap.size) {b : Nat} (hb : base ≤ b) (hoth : ∀ c, c ≠ b → w'.heap[c]? = w.heap[c]?) : Below base w w' :=
  ⟨hos, ht, hou, by rw [hs]; exact Nat.le_refl _, fun c hc => hoth c (by omega)⟩

theorem onMap_some {o : AO} {k : AV → R} (h : onMap o k = some r) : ∃ es, o = .map es ∧ k es = some r := by
  cases o <;> first | exact ⟨_, rfl, h⟩ | cases h
theorem onAg_some {v : AV} {k : AV → R} (h : onAg v k = some r) : ∃ l, v = .ag l ∧ k l = some r := by
  rcases onBox_some h with ⟨l, rfl, h1⟩ | ⟨_, h1⟩
  · exact ⟨l, rfl, h1⟩
  · cases h1
/-- A row of scalars laid from a place on. -/
theorem putL_some {ρ : Env} {n : Nat} : ∀ (l : AV) (cs : T AV) (off : Nat) (k : T AV → Nat → R), putL l cs off k = some r → ok n l →
    ∃ cs' m, k cs' m = some r ∧ m = off + (concL ρ l).length ∧ (∀ u ∈ concL ρ l, u.oneCell' = true ∧ u.cells = #[u]) ∧
      ∀ j v, T.get cs' j = some v → (off ≤ j ∧ j < m ∧ ok n v ∧ scalar v = true ∧ (concL ρ l)[j - off]? = some (conc ρ v)) ∨ ((j < off ∨ m ≤ j) ∧ T.get cs j = some v) := by
  intro l
  induction l with
  | e => intro cs off k h _; exact ⟨cs, off, h, by simp [concL], by simp [concL], fun j v hv => .inr ⟨by omega, hv⟩⟩
  | c x l _ ih =>
    intro cs off k h hl
    obtain ⟨hx, h1⟩ := when_some (show when (scalar x) (T.setK cs off x fun cs => forceN (Nat.succ off) fun off => putL l cs off k) = some r from h)
    obtain ⟨cs1, h2, hset⟩ := setK_some h1
    rw [forceN_eq] at h2
    obtain ⟨cs', m, h3, h4, h5, h6⟩ := ih cs1 (off + 1) k h2 hl.2
    refine ⟨cs', m, h3, by simp [concL]; omega, ?_, fun j v hv => ?_⟩
    · intro u hu
      simp only [concL, List.mem_cons] at hu
      rcases hu with rfl | hu
      · exact ⟨scalar_one hx, scalar_cells hx⟩
      · exact h5 u hu
    · rcases h6 j v hv with ⟨a1, a2, a3, a4, a5⟩ | ⟨a1, a2⟩
      · refine .inl ⟨by omega, a2, a3, a4, ?_⟩
        rw [show j - off = (j - (off + 1)) + 1 by omega]
        simpa [concL] using a5
      · rw [hset] at a2
        by_cases ej : j = off
        · rw [if_pos ej] at a2
          cases a2
          refine .inl ⟨by omega, by omega, hl.1, hx, ?_⟩
          rw [show j - off = 0 by omega]
          simp [concL]
        · rw [if_neg ej] at a2
          exact .inr ⟨by omega, a2⟩
  | _ => intro cs off k h _; cases h
theorem wStore_some {t : Nat} {x y : Operand} (hr : RR ρ h.next nt rg a) (hh : HR ρ base h w) (h1 : wStore P nt rg h o.dst k t x y = some r) (ho : o.op = .store t x y) : Wrote P ρ base h w nt k r a o := by
  obtain ⟨p, h2, _, h3⟩ := oe_some h1 hr
  obtain ⟨v, h4, h5, h6⟩ := oe_some h2 hr
  obtain ⟨id, off, rfl, h7⟩ := onP_some h4
  obtain ⟨ob, h12, h13⟩ := opt_some h7
  obtain ⟨e, size, cs, rfl, h14⟩ := onCells_some h13
  obtain ⟨c, hc1, hc2, hc3⟩ := hh.obj id _ h12
  have hfz : ∀ o', w.frozen? ⟨ρ.σ id, o', none⟩ = false := fun o' => by simp [World.frozen?, hc1]
  cases hone : one P t with
  | true =>
    rw [hone] at h14
    obtain ⟨h10, h11⟩ := when_some h14
    obtain ⟨h15, h16⟩ := when_some h11
    obtain ⟨cs', h17, hset⟩ := setK_some h16
    obtain ⟨i, d, hi, hu, hs, hd⟩ := one_some hone
    have hlt : off < size := by simpa [Nat.blt_eq] using h15
    have hcell : ∃ u, w.cell? ⟨ρ.σ id, off, none⟩ = some u := ⟨c[off]'(by omega), by simp [World.cell?, hc1, hc2, hlt]⟩
    obtain ⟨u, hu'⟩ := hcell
    have hrun : (execOp a.eval o).run P w = .ok .skip (w.setCell ⟨ρ.σ id, off, none⟩ (conc ρ v)) := by
      simp only [execOp, ho, h3, h6, conc, Instr.storeAt, Instr.sureAddr, storeVar, Sem.run_bind, Sem.run_pure, Result.andThen_ok]
      rw [run_sizeOf1 hi hs]
      simp only [Result.andThen_ok, scalar_cells h10]
      simp [storeCells, run_store P w _ _ _ (scalar_one h10), hu', hfz, add_conc]
    have hoth : ∀ b, b ≠ ρ.σ id → (w.setCell ⟨ρ.σ id, off, none⟩ (conc ρ v)).heap[b]? = w.heap[b]? := fun b hb => Below.heap_setCell _ _ _ _ hb
    have hsz : (w.setCell ⟨ρ.σ id, off, none⟩ (conc ρ v)).heap.size = w.heap.size := by simp [World.setCell]
    refine ⟨undef, _, .inr ⟨hrun, rfl⟩, ?_⟩
    refine wObj_some (v := .tu .e) h17 hr hh h12 (by simp) rfl hsz hoth (below_block rfl rfl rfl hsz (hh.own id _ h12 rfl) hoth) ?_ trivial
    have hlt' : ρ.σ id < w.heap.size := hh.base id (hh.lt id _ h12)
    refine ⟨c.setIfInBounds off (conc ρ v), ?_, by simpa using hc2, fun j hj x hx => ?_⟩
    · rw [setCell_eq_setRow w _ _ _ _ _ _ hc1]; exact setRow_heap _ _ _ _ _ _ hc1
    · rw [hset] at hx
      by_cases ej : j = off
      · rw [if_pos ej] at hx
        cases hx
        subst ej
        exact ⟨h5, h10, by simp [hc2, hlt]⟩
      · rw [if_neg ej] at hx
        obtain ⟨a1, a2, a3⟩ := hc3 j hj x hx
        exact ⟨a1, a2, by rw [Array.getElem?_setIfInBounds_ne (fun e => ej e.symm)]; exact a3⟩
  | false =>
    rw [hone] at h14
    obtain ⟨sz, hst, h15⟩ := opt_some h14
    obtain ⟨fs, i, hus, hi, hs⟩ := structSize_some hst
    obtain ⟨l, rfl, h16⟩ := onAg_some h15
    obtain ⟨cs', m, h17, h18, h19, h20⟩ := putL_some (ρ := ρ) (n := h.next) l cs off _ h16 h5
    obtain ⟨h21, h22⟩ := when_some h17
    obtain ⟨h23, h24⟩ := when_some h22
    have hm : m = off + sz := Nat.eq_of_beq_eq_true h21
    have hle : m ≤ size := Nat.le_of_ble_eq_true h23
    have hlen : (concL ρ l).length = sz := by omega
    have hrun : (execOp a.eval o).run P w = .ok .skip (w.setRow (ρ.σ id) (c.toList.take off ++ concL ρ l ++ c.toList.drop (off + sz)).toArray) := by
      simp only [execOp, ho, h3, h6, conc, Instr.storeAt, Instr.sureAddr, storeVar, Sem.run_bind, Sem.run_pure, Result.andThen_ok]
      rw [show (sizeOf t).run P w = .ok sz w by simp [sizeOf, typeInfo, hi, hs]]
      simp only [Result.andThen_ok, Value.cells, List.size_toArray, hlen, ne_eq, not_true_eq_false, if_false]
      have := run_storeCells_at (P := P) (ρ.σ id) off e (concL ρ l) 0 c w hc1 (by omega) (fun v hv => (h19 v hv).1)
      simp only [Nat.add_zero, hlen] at this
      simp [this]
    have hoth : ∀ b, b ≠ ρ.σ id → (w.setRow (ρ.σ id) (c.toList.take off ++ concL ρ l ++ c.toList.drop (off + sz)).toArray).heap[b]? = w.heap[b]? := fun b hb => setRow_other w _ _ _ hb
    refine ⟨undef, _, .inr ⟨hrun, rfl⟩, ?_⟩
    refine wObj_some (v := .tu .e) h24 hr hh h12 (by simp) rfl (by simp) hoth (below_block rfl rfl rfl (by simp) (hh.own id _ h12 rfl) hoth) ?_ trivial
    refine ⟨_, setRow_heap _ _ _ _ _ _ hc1, by simp [hlen, hc2]; omega, fun j hj v hv => ?_⟩
    have hl : (c.toList.take off).length = off := by simp [hc2]; omega
    rcases h20 j v hv with ⟨b1, b2, b3, b4, b5⟩ | ⟨b1, b2⟩
    · refine ⟨b3, b4, ?_⟩
      have : j - off < (concL ρ l).length := by omega
      simp only [List.getElem?_toArray, List.append_assoc]
      rw [List.getElem?_append_right (by rw [hl]; omega), hl, List.getElem?_append_left this]
      exact b5
    · obtain ⟨d1, d2, d3⟩ := hc3 j hj v b2
      refine ⟨d1, d2, ?_⟩
      simp only [List.getElem?_toArray, List.append_assoc]
      rcases b1 with b1 | b1
      · rw [List.getElem?_append_left (by rw [hl]; omega), List.getElem?_take, if_pos b1]
        simpa using d3
      · rw [List.getElem?_append_right (by rw [hl]; omega), hl, List.getElem?_append_right (by omega), hlen, List.getElem?_drop, show off + sz + (j - off - sz) = j by omega]
        simpa using d3
end
end Go.Proofs.YtcnallabiffemaaGreatDoor.Vm
