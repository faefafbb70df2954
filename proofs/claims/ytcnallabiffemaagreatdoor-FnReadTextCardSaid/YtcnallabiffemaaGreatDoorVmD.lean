/- The abstract machine's operations that look at no memory, and its loads, are the machine's own. Conditions: the frame and the heap stand for the real ones. -/
import Derived.Test.YtcnallabiffemaaGreatDoorVmC
import Derived.Laws.Strings
namespace Go.Proofs.YtcnallabiffemaaGreatDoor.Vm
open Go Go.RowKit

theorem isPtr_some {d : Option TypeDesc} (h : isPtr d = true) : ∃ e, d = some (.pointer e) := by
  unfold isPtr at h
  split at h
  · exact ⟨_, rfl⟩
  · cases h
theorem isIface_some {d : Option TypeDesc} (h : isIface d = true) : ∃ e, d = some (.interface e) := by
  unfold isIface at h
  split at h
  · exact ⟨_, rfl⟩
  · cases h
theorem eqK_some {op : BinOp} {t : Bool} {k : AV → R} {r : AV × AH} (h : eqK op t k = some r) : (op = .eql ∧ k (.b t) = some r) ∨ (op = .neq ∧ k (.b (!t)) = some r) := by
  cases op <;> first | cases h | skip
  · exact .inl ⟨rfl, (boolK_eq _ _).symm.trans h⟩
  · exact .inr ⟨rfl, (boolK_eq _ _).symm.trans h⟩
theorem guard_int (op : BinOp) (t : TypeId) (x y : Operand) (ka kb : IntKind) (a b : Int) (P : Program) (w : World) : (eqGuard op t x y (.int ka a) (.int kb b)).run P w = .ok () w := by
  cases op <;> simp [eqGuard]
def eq2 (op : BinOp) (t : Bool) : Value := .bool (if op = .eql then t else !t)
/-- '==' and '!=' of two values that are told apart or told the same. -/
theorem run_eqs {P : Program} {w : World} {op : BinOp} (hop : op = .eql ∨ op = .neq) {t : TypeId} {x y : Operand} {a b : Value} {z : Bool}
    (hg : (eqGuard op t x y a b).run P w = .ok () w) (he : binOp .eql t a b = (do pure (.bool (← Op.equal t a b)))) (hn : binOp .neq t a b = (do pure (.bool (!(← Op.equal t a b)))))
    (hz : (Op.equal t a b).run P w = .ok z w) : (do eqGuard op t x y a b; binOp op t a b : Sem Value).run P w = .ok (eq2 op z) w := by
  rcases hop with rfl | rfl
  · rw [Sem.run_bind, hg, Result.andThen_ok, he]; simp [hz, eq2]
  · rw [Sem.run_bind, hg, Result.andThen_ok, hn]; simp [hz, eq2]
section
variable {P : Program} (w : World) (d : Nat) {t : TypeId}
theorem equalIn_ptr1 {e : TypeId} (he : P.underlying t = some (.pointer e)) (b : Option Addr) : (Op.equalIn (d + 1) t (.pointer none) (.pointer b)).run P w = .ok b.isNone w := by
  simp [Op.equalIn, run_underlying he]
theorem equalIn_ptr2 {e : TypeId} (he : P.underlying t = some (.pointer e)) (b : Addr) : (Op.equalIn (d + 1) t (.pointer (some b)) (.pointer none)).run P w = .ok false w := by
  simp [Op.equalIn, run_underlying he]
theorem equalIn_ni {e : Array (String × TypeId)} (he : P.underlying t = some (.interface e)) : (Op.equalIn (d + 1) t .nilIface .nilIface).run P w = .ok true w := by
  simp [Op.equalIn, run_underlying he]
theorem equalIn_it1 {e : Array (String × TypeId)} (he : P.underlying t = some (.interface e)) (u : TypeId) (v : Value) : (Op.equalIn (d + 1) t (.iface u v) .nilIface).run P w = .ok false w := by
  simp [Op.equalIn, run_underlying he]
theorem equalIn_it2 {e : Array (String × TypeId)} (he : P.underlying t = some (.interface e)) (u : TypeId) (v : Value) : (Op.equalIn (d + 1) t .nilIface (.iface u v)).run P w = .ok false w := by
  simp [Op.equalIn, run_underlying he]
end
theorem guard_plain {P : Program} {w : World} {op : BinOp} {t : TypeId} {x y : Operand} {a b : Value} (h1 : a ≠ .nilIface ∨ b ≠ .nilIface) (h2 : ∀ l, a ≠ .agg l) : (eqGuard op t x y a b).run P w = .ok () w := by
  cases op <;> first
    | rfl
    | (simp only [eqGuard, Bool.not_true, Bool.false_eq_true, if_false]
       split
       · rcases h1 with h1 | h1 <;> exact absurd rfl h1
       · exact absurd rfl (h2 _)
       · rfl)
theorem guard_nil {P : Program} {w : World} {op : BinOp} {t : TypeId} {x y : Operand} (h : (isC x || isC y) = true) : (eqGuard op t x y .nilIface .nilIface).run P w = .ok () w := by
  cases op <;> first
    | rfl
    | (simp only [eqGuard, Bool.not_true, Bool.false_eq_true, if_false]
       cases x <;> cases y <;> first | rfl | cases h)

theorem bop_some {P : Program} {op : BinOp} {xt : Nat} {c : Bool} {a b : AV} {k : AV → R} {r : AV × AH} (h : bop P op xt c a b k = some r) :
    ∃ v, k v = some r ∧ (∀ n, ok n v) ∧ ∀ (ρ : Env) (w : World) (x y : Operand), (isC x || isC y) = c → (do eqGuard op xt x y (conc ρ a) (conc ρ b); binOp op xt (conc ρ a) (conc ρ b) : Sem Value).run P w = .ok (conc ρ v) w := by
  have fin : ∀ {z : Bool}, eqK op z k = some r → (∀ (ρ : Env) (w : World) (x y : Operand), (isC x || isC y) = c → op = .eql ∨ op = .neq →
      (do eqGuard op xt x y (conc ρ a) (conc ρ b); binOp op xt (conc ρ a) (conc ρ b) : Sem Value).run P w = .ok (eq2 op z) w) →
      ∃ v, k v = some r ∧ (∀ n, ok n v) ∧ ∀ (ρ : Env) (w : World) (x y : Operand), (isC x || isC y) = c → (do eqGuard op xt x y (conc ρ a) (conc ρ b); binOp op xt (conc ρ a) (conc ρ b) : Sem Value).run P w = .ok (conc ρ v) w := by
    intro z hz hrun
    rcases eqK_some hz with ⟨rfl, h1⟩ | ⟨rfl, h1⟩
    · exact ⟨_, h1, fun _ => trivial, fun ρ w x y hc => by rw [hrun ρ w x y hc (.inl rfl)]; simp [eq2, conc]⟩
    · exact ⟨_, h1, fun _ => trivial, fun ρ w x y hc => by rw [hrun ρ w x y hc (.inr rfl)]; simp [eq2, conc]⟩
  cases a with
  | i ka x =>
    obtain ⟨kb, y, rfl, h⟩ := onI_some h
    obtain ⟨v, h1, h2, h3⟩ := intK_some h
    exact ⟨v, h1, h2, fun ρ w x' y' _ => by simp only [conc, Sem.run_bind, guard_int, Result.andThen_ok]; exact h3 ρ P w xt⟩
  | s x =>
    obtain ⟨y, rfl, h⟩ := onS_some h
    refine fin h fun ρ w x' y' _ hop => ?_
    rcases hop with rfl | rfl <;> simp [conc, eqGuard, binOp, Op.stringOp, eq2, ByteArray.toList_eq]
  | np =>
    cases b with
    | p id off =>
      obtain ⟨hp, h⟩ := when_some h
      obtain ⟨e, he⟩ := isPtr_some hp
      exact fin h fun ρ w x' y' _ hop => run_eqs hop (guard_plain (.inl (by simp [conc])) (by simp [conc])) rfl rfl (equalIn_ptr1 w 9999 he _)
    | np =>
      obtain ⟨hp, h⟩ := when_some h
      obtain ⟨e, he⟩ := isPtr_some hp
      exact fin h fun ρ w x' y' _ hop => run_eqs hop (guard_plain (.inl (by simp [conc])) (by simp [conc])) rfl rfl (equalIn_ptr1 w 9999 he _)
    | _ => cases h
  | p id off =>
    cases b with
    | np =>
      obtain ⟨hp, h⟩ := when_some h
      obtain ⟨e, he⟩ := isPtr_some hp
      exact fin h fun ρ w x' y' _ hop => run_eqs hop (guard_plain (.inl (by simp [conc])) (by simp [conc])) rfl rfl (equalIn_ptr2 w 9999 he _)
    | _ => cases h
  | it t v =>
    cases b with
    | ni =>
      obtain ⟨hp, h⟩ := when_some h
      obtain ⟨e, he⟩ := isIface_some hp
      exact fin h fun ρ w x' y' _ hop => run_eqs hop (guard_plain (.inl (by simp [conc])) (by simp [conc])) rfl rfl (equalIn_it1 w 9999 he _ _)
    | _ => cases h
  | ni =>
    cases b with
    | it t v =>
      obtain ⟨hp, h⟩ := when_some h
      obtain ⟨e, he⟩ := isIface_some hp
      exact fin h fun ρ w x' y' _ hop => run_eqs hop (guard_plain (.inr (by simp [conc])) (by simp [conc])) rfl rfl (equalIn_it2 w 9999 he _ _)
    | ni =>
      obtain ⟨hp, h⟩ := when_some h
      simp only [Bool.and_eq_true] at hp
      obtain ⟨e, he⟩ := isIface_some hp.2
      exact fin h fun ρ w x' y' hc hop => run_eqs hop (guard_nil (hc.trans hp.1)) rfl rfl (equalIn_ni w 9999 he)
    | _ => cases h
  | _ => cases h
end Go.Proofs.YtcnallabiffemaaGreatDoor.Vm
