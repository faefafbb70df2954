/- The abstract machine's operations that write nothing are the machine's own. Conditions: the frame and the heap stand for the real ones. -/
import Derived.Test.YtcnallabiffemaaGreatDoorVmB
import Derived.WideLaws
namespace Go.Proofs.YtcnallabiffemaaGreatDoor.Vm
open Go Go.RowKit

theorem ofVal_some {v : Value} {x : AV} (h : ofVal v = some x) (ρ : Env) (n : Nat) : conc ρ x = v ∧ ok n x := by
  unfold ofVal at h
  split at h <;> first | (cases h; exact ⟨by simp [conc], trivial⟩) | cases h
theorem oe_some {ρ : Env} {n nt : Nat} {rg : T AV} {a : Act} {x : Operand} {k : AV → R} {r : AV × AH} (h : oe rg x k = some r) (hr : RR ρ n nt rg a) :
    ∃ v, k v = some r ∧ ok n v ∧ a.eval x = conc ρ v := by
  cases x with
  | tmp t =>
    obtain ⟨v, h1, h2⟩ := opt_some (show opt (T.get rg t) k = some r from h)
    obtain ⟨_, h3, h4⟩ := hr.slot t v h1
    exact ⟨v, h2, h3, by simp [Act.eval, h4]⟩
  | const c =>
    obtain ⟨v, h1, h2⟩ := opt_some (show opt (ofVal c) k = some r from h)
    obtain ⟨h3, h4⟩ := ofVal_some h1 ρ n
    exact ⟨v, h2, h4, by simp [Act.eval, h3]⟩
  | global g => cases h
  | func f => exact ⟨.f f .e, h, trivial, by simp [Act.eval, conc, concL]⟩
theorem oes_some {ρ : Env} {n nt : Nat} {rg : T AV} {a : Act} (hr : RR ρ n nt rg a) : ∀ (l : List Operand) (k : AV → R) (r : AV × AH), oes rg l k = some r →
    ∃ v, k v = some r ∧ ok n v ∧ concL ρ v = l.map a.eval := by
  intro l
  induction l with
  | nil => intro k r h; exact ⟨.e, h, trivial, by simp [concL]⟩
  | cons x l ih =>
    intro k r h
    obtain ⟨v, h1, h2, h3⟩ := oe_some (show oe rg x (fun v => oes rg l fun vs => k (.c v vs)) = some r from h) hr
    obtain ⟨vs, h4, h5, h6⟩ := ih _ _ h1
    exact ⟨.c v vs, h4, ⟨h2, h5⟩, by simp [concL, h6, h3]⟩

/-! ### Numbers -/
theorem kn_inj {a b : IntKind} (h : Nat.beq (kn a) (kn b) = true) : a = b := by cases a <;> cases b <;> first | rfl | cases h
theorem slowK_eq (k : IntKind) (n : Int) (f : AV → R) : slowK k n f = f (.i k (k.wrap n)) := forceI_eq _ _
theorem wrap_top {k : IntKind} {m : Nat} (h : Nat.blt m (top k) = true) : k.wrap (.ofNat m) = .ofNat m := by
  have h' : m < top k := by simpa [Nat.blt_eq] using h
  cases k <;> simp only [top] at h' <;> first | omega | skip
  · rw [Int.ofNat_eq_natCast]
    unfold IntKind.wrap
    simp [IntKind.bits, IntKind.signed]
    omega
  · rw [Int.ofNat_eq_natCast]
    unfold IntKind.wrap
    simp [IntKind.bits, IntKind.signed]
    omega
theorem wrapN_eq (k : IntKind) (m : Nat) (f : AV → R) : wrapN k m f = f (.i k (k.wrap (.ofNat m))) := by
  unfold wrapN
  cases h : Nat.blt m (top k) with
  | false => exact slowK_eq _ _ _
  | true => rw [wrap_top h]; exact forceN_eq m fun m => f (.i k (.ofNat m))
theorem iLt_eq (a b : Int) : iLt a b = decide (a < b) := by
  cases a with
  | ofNat m => cases b with
    | ofNat n => show Nat.blt m n = _; rw [Bool.eq_iff_iff]; simp [Nat.blt_eq]
    | negSucc n => show false = _; symm; rw [decide_eq_false_iff_not, Int.ofNat_eq_natCast]; omega
  | negSucc m => cases b with
    | ofNat n => show true = _; symm; rw [decide_eq_true_eq, Int.ofNat_eq_natCast]; omega
    | negSucc n => show Nat.blt n m = _; rw [Bool.eq_iff_iff]; simp [Nat.blt_eq]; omega
theorem iEq_eq (a b : Int) : iEq a b = (a == b) := by
  cases a with
  | ofNat m => cases b with
    | ofNat n => show Nat.beq m n = _; rw [Bool.eq_iff_iff]; simp; omega
    | negSucc n => show false = _; symm; rw [beq_eq_false_iff_ne]; exact fun h => by cases h
  | negSucc m => cases b with
    | ofNat n => show false = _; symm; rw [beq_eq_false_iff_ne]; exact fun h => by cases h
    | negSucc n => show Nat.beq m n = _; rw [Bool.eq_iff_iff]; simp
section
variable (ka : IntKind) (x y : Int) (k : AV → R)
theorem addK_eq : addK ka x y k = k (.i ka (ka.wrap (x + y))) := by
  unfold addK
  cases x with
  | ofNat a => cases y with
    | ofNat b => exact wrapN_eq ka (a + b) k
    | negSucc b => exact slowK_eq _ _ _
  | negSucc a => exact slowK_eq _ _ _
theorem subK_eq : subK ka x y k = k (.i ka (ka.wrap (x - y))) := by
  unfold subK
  cases x with
  | ofNat a => cases y with
    | ofNat b =>
      show Bool.rec (motive := fun _ => R) (slowK ka (.ofNat a - .ofNat b) k) (wrapN ka (Nat.sub a b) k) (Nat.ble b a) = _
      cases h : Nat.ble b a with
      | false => exact slowK_eq _ _ _
      | true =>
        have hle : b ≤ a := Nat.le_of_ble_eq_true h
        refine (wrapN_eq ka (a - b) k).trans ?_
        rw [show (Int.ofNat (a - b)) = Int.ofNat a - Int.ofNat b from by rw [Int.ofNat_eq_natCast, Int.ofNat_eq_natCast, Int.ofNat_eq_natCast]; omega]
    | negSucc b => exact slowK_eq _ _ _
  | negSucc a => exact slowK_eq _ _ _
theorem mulK_eq : mulK ka x y k = k (.i ka (ka.wrap (x * y))) := by
  unfold mulK
  cases x with
  | ofNat a => cases y with
    | ofNat b => exact wrapN_eq ka (a * b) k
    | negSucc b => exact slowK_eq _ _ _
  | negSucc a => exact slowK_eq _ _ _
theorem boolK_eq (t : Bool) : boolK k t = k (.b t) := forceB_eq _ _
end
theorem intK_some {ka kb : IntKind} {x y : Int} {k : AV → R} {op : BinOp} {r : AV × AH} (h : intK ka kb x y k op = some r) :
    ∃ v, k v = some r ∧ (∀ n, ok n v) ∧ ∀ (ρ : Env) (P : Program) (w : World) (xt : TypeId), (binOp op xt (.int ka x) (.int kb y)).run P w = .ok (conc ρ v) w := by
  have kinds : ∀ {z : R}, same ka kb z = some r → ka = kb ∧ z = some r := fun hz => ⟨kn_inj (when_some hz).1, (when_some hz).2⟩
  cases op with
  | add => obtain ⟨rfl, h1⟩ := kinds h; rw [addK_eq] at h1; exact ⟨_, h1, fun _ => trivial, fun ρ P w xt => by simp [binOp, Op.intArith, conc]⟩
  | sub => obtain ⟨rfl, h1⟩ := kinds h; rw [subK_eq] at h1; exact ⟨_, h1, fun _ => trivial, fun ρ P w xt => by simp [binOp, Op.intArith, conc]⟩
  | mul => obtain ⟨rfl, h1⟩ := kinds h; rw [mulK_eq] at h1; exact ⟨_, h1, fun _ => trivial, fun ρ P w xt => by simp [binOp, Op.intArith, conc]⟩
  | quo =>
    obtain ⟨rfl, h1⟩ := kinds h
    unfold quoK at h1
    rw [iEq_eq] at h1
    cases hy : y == 0 with
    | true => rw [hy] at h1; cases h1
    | false =>
      rw [hy] at h1
      have hy' : ¬ y = 0 := by simpa using hy
      exact ⟨_, (slowK_eq _ _ _).symm.trans h1, fun _ => trivial, fun ρ P w xt => by simp [binOp, Op.intDiv, conc, hy']⟩
  | rem =>
    obtain ⟨rfl, h1⟩ := kinds h
    unfold remK at h1
    rw [iEq_eq] at h1
    cases hy : y == 0 with
    | true => rw [hy] at h1; cases h1
    | false =>
      rw [hy] at h1
      have hy' : ¬ y = 0 := by simpa using hy
      exact ⟨_, (forceI_eq _ _).symm.trans h1, fun _ => trivial, fun ρ P w xt => by simp [binOp, Op.intDiv, conc, hy']⟩
  | and => obtain ⟨rfl, h1⟩ := kinds h; exact ⟨_, (slowK_eq _ _ _).symm.trans h1, fun _ => trivial, fun ρ P w xt => by simp [binOp, Op.intBits, conc]⟩
  | or => obtain ⟨rfl, h1⟩ := kinds h; exact ⟨_, (slowK_eq _ _ _).symm.trans h1, fun _ => trivial, fun ρ P w xt => by simp [binOp, Op.intBits, conc]⟩
  | xor => obtain ⟨rfl, h1⟩ := kinds h; exact ⟨_, (slowK_eq _ _ _).symm.trans h1, fun _ => trivial, fun ρ P w xt => by simp [binOp, Op.intBits, conc]⟩
  | shl =>
    have h : shlK ka x y k = some r := h
    unfold shlK at h
    rw [iLt_eq] at h
    cases hy : decide (y < 0) with
    | true => rw [hy] at h; cases h
    | false =>
      rw [hy] at h
      have hy' : ¬ y < 0 := by simpa using hy
      exact ⟨_, (slowK_eq _ _ _).symm.trans h, fun _ => trivial, fun ρ P w xt => by simp [binOp, Op.shift, conc, hy']⟩
  | shr =>
    have h : shrK ka x y k = some r := h
    unfold shrK at h
    rw [iLt_eq] at h
    cases hy : decide (y < 0) with
    | true => rw [hy] at h; cases h
    | false =>
      rw [hy] at h
      have hy' : ¬ y < 0 := by simpa using hy
      exact ⟨_, (forceI_eq _ _).symm.trans h, fun _ => trivial, fun ρ P w xt => by simp [binOp, Op.shift, conc, hy']⟩
  | andNot => cases h
  | eql => obtain ⟨rfl, h1⟩ := kinds h; rw [boolK_eq, iEq_eq] at h1; exact ⟨_, h1, fun _ => trivial, fun ρ P w xt => by simp [binOp, Op.intCmp, conc]⟩
  | neq => obtain ⟨rfl, h1⟩ := kinds h; rw [boolK_eq, iEq_eq] at h1; exact ⟨_, h1, fun _ => trivial, fun ρ P w xt => by simp [binOp, Op.intCmp, conc, bne]⟩
  | lss => obtain ⟨rfl, h1⟩ := kinds h; rw [boolK_eq, iLt_eq] at h1; exact ⟨_, h1, fun _ => trivial, fun ρ P w xt => by simp [binOp, Op.intCmp, conc]⟩
  | leq => obtain ⟨rfl, h1⟩ := kinds h; rw [boolK_eq, iLt_eq] at h1; exact ⟨_, h1, fun _ => trivial, fun ρ P w xt => by simp [binOp, Op.intCmp, conc, ← decide_not]⟩
  | gtr => obtain ⟨rfl, h1⟩ := kinds h; rw [boolK_eq, iLt_eq] at h1; exact ⟨_, h1, fun _ => trivial, fun ρ P w xt => by simp [binOp, Op.intCmp, conc]⟩
  | geq => obtain ⟨rfl, h1⟩ := kinds h; rw [boolK_eq, iLt_eq] at h1; exact ⟨_, h1, fun _ => trivial, fun ρ P w xt => by simp [binOp, Op.intCmp, conc, ← decide_not]⟩
end Go.Proofs.YtcnallabiffemaaGreatDoor.Vm
