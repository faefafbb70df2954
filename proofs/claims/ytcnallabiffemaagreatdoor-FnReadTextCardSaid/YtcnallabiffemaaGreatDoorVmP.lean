/- The closed call, run on the abstract machine by the kernel, and as a contract. Conditions: its four variables lie apart, at or above base. -/
import Derived.Test.YtcnallabiffemaaGreatDoorProg
import Derived.Test.YtcnallabiffemaaGreatDoorVmA
import Derived.KernelRfl
import Derived.Test.YtcnallabiffemaaGreatDoorVmN
namespace Go.Proofs.YtcnallabiffemaaGreatDoor.Vm
open Go

/-- The heap before the call: the text, the shape, the outcome, the flag. -/
noncomputable def h4 : AH :=
  ⟨.node (.node (.node (T.full none 11) (some (.cells 4 1 (T.full (some (.b false)) 1))) (T.full none 11)) (some (.cells 53 1 (T.full (some (.i .i64 0)) 1))) (T.full none 11)) (some (.cells 9 1 (T.full (some (.s ⟨#[49, 50, 51, 52, 53, 54]⟩)) 1)))
    (.node (T.full none 11) (some (.cells 34 1 (T.full (some .ns) 1))) (T.full none 11)), 4⟩
noncomputable def isB (v : AV) : Bool := AV.rec (motive := fun _ => Bool) (fun x => x) (fun _ _ => false) (fun _ => false) (fun _ _ => false) false (fun _ _ _ _ => false) (fun _ _ => false) false (fun _ _ _ => false) false (fun _ _ _ => false) false (fun _ _ => false) (fun _ _ => false) false (fun _ _ _ _ => false) (fun _ => false) v
noncomputable def isG (v : AV) (m : Nat) : Bool := AV.rec (motive := fun _ => Bool) (fun _ => false) (fun _ _ => false) (fun _ => false) (fun _ _ => false) false (fun _ _ _ _ => false) (fun _ n => Nat.beq n m) false (fun _ _ _ => false) false (fun _ _ _ => false) false (fun _ _ => false) (fun _ _ => false) false (fun _ _ _ _ => false) (fun _ => false) v
noncomputable def isCells (o : AO) (e : Nat) (f : T AV → Bool) : Bool := AO.rec (motive := fun _ => Bool) (fun e' s cs => Bool.rec (motive := fun _ => Bool) false (Bool.rec (motive := fun _ => Bool) false (f cs) (Nat.beq s 1)) (Nat.beq e' e)) (fun _ _ _ => false) (fun _ _ => false) false (fun _ _ _ => false) (fun _ => false) o
noncomputable def orNo {α : Type} (x : Option α) (f : α → Bool) : Bool := Option.rec (motive := fun _ => Bool) false f x
/-- True; the outcome a grown slice of length 10; the flag's cell still there. -/
noncomputable def fine4 (r : R) : Bool :=
  orNo r fun vh => Bool.rec (motive := fun _ => Bool) false (orNo (T.get vh.2.objs 3) fun f => Bool.rec (motive := fun _ => Bool) false
    (orNo (T.get vh.2.objs 2) fun o => isCells o 34 fun cs => orNo (T.get cs 0) fun v => isG v 10) (isCells f 4 fun _ => true)) (isB vh.1)
theorem fine_run : fine4 (run Tryz.prog 3000 22 (.c (.p 0 0) (.c (.p 1 0) (.c (.p 2 0) .e))) h4) = true := by kernel_rfl
end Go.Proofs.YtcnallabiffemaaGreatDoor.Vm
namespace Go.Proofs.YtcnallabiffemaaGreatDoor.Vm
open Go Go.RowKit

theorem orNo_some {α : Type} {x : Option α} {f : α → Bool} (h : orNo x f = true) : ∃ a, x = some a ∧ f a = true := by
  cases x with
  | none => cases h
  | some a => exact ⟨a, rfl, h⟩
theorem brec_true {a b : Bool} (h : Bool.rec (motive := fun _ => Bool) false a b = true) : b = true ∧ a = true := by
  cases b with
  | false => cases h
  | true => exact ⟨rfl, h⟩
theorem isCells_some {o : AO} {e : Nat} {f : T AV → Bool} (h : isCells o e f = true) : ∃ cs, o = .cells e 1 cs ∧ f cs = true := by
  cases o with
  | cells e' s cs =>
    obtain ⟨h1, h2⟩ := brec_true (show Bool.rec (motive := fun _ => Bool) false (Bool.rec (motive := fun _ => Bool) false (f cs) (Nat.beq s 1)) (Nat.beq e' e) = true from h)
    obtain ⟨h3, h4⟩ := brec_true h2
    obtain rfl : e' = e := Nat.eq_of_beq_eq_true h1
    obtain rfl : s = 1 := Nat.eq_of_beq_eq_true h3
    exact ⟨cs, rfl, h4⟩
  | _ => cases h
theorem isG_some {v : AV} {m : Nat} (h : isG v m = true) : ∃ g, v = .g g m := by
  cases v with
  | g id n => obtain rfl : n = m := Nat.eq_of_beq_eq_true h; exact ⟨_, rfl⟩
  | _ => cases h
theorem isB_some {v : AV} (h : isB v = true) : v = .b true := by
  cases v with
  | b x => cases x with
    | true => rfl
    | false => cases h
  | _ => cases h
theorem fine4_some {r : R} (h : fine4 r = true) : ∃ h' f o g, r = some (.b true, h') ∧ T.get h'.objs 3 = some (.cells 4 1 f) ∧ T.get h'.objs 2 = some (.cells 34 1 o) ∧ T.get o 0 = some (.g g 10) := by
  obtain ⟨⟨v, h'⟩, rfl, h1⟩ := orNo_some h
  obtain ⟨h2, h3⟩ := brec_true h1
  obtain ⟨fo, h4, h5⟩ := orNo_some h3
  obtain ⟨h6, h7⟩ := brec_true h5
  obtain ⟨f, rfl, _⟩ := isCells_some h6
  obtain ⟨oo, h8, h9⟩ := orNo_some h7
  obtain ⟨o, rfl, h10⟩ := isCells_some h9
  obtain ⟨gv, h11, h12⟩ := orNo_some h10
  obtain ⟨g, rfl⟩ := isG_some h12
  have := isB_some h2
  subst this
  exact ⟨h', f, o, g, rfl, h4, h8, h11⟩

theorem getB_none {α : Type} : ∀ (b : B) (d : Nat), T.getB b (T.full (none : Option α) d) = none := fun b d => by
  rcases getB_full (none : Option α) b d with h | h <;> exact h
theorem bits1 : bits 1 = .o .z := rfl
theorem bits2 : bits 2 = .e .z := rfl
theorem bits3 : bits 3 = .o (.o .z) := rfl
theorem h4_get {i : Nat} {o : AO} (h : T.get h4.objs i = some o) :
    (i = 0 ∧ o = .cells 9 1 (T.full (some (.s ⟨#[49, 50, 51, 52, 53, 54]⟩)) 1)) ∨ (i = 1 ∧ o = .cells 53 1 (T.full (some (.i .i64 0)) 1)) ∨
    (i = 2 ∧ o = .cells 34 1 (T.full (some .ns) 1)) ∨ (i = 3 ∧ o = .cells 4 1 (T.full (some (.b false)) 1)) := by
  have h0 : T.getB (bits i) h4.objs = some o := h
  cases hb : bits i with
  | z =>
    rw [hb] at h0
    exact .inl ⟨bits_inj hb, (Option.some.inj h0).symm⟩
  | e b =>
    rw [hb] at h0
    cases b with
    | z => exact .inr (.inr (.inl ⟨bits_inj (hb.trans bits2.symm), (Option.some.inj h0).symm⟩))
    | o b => exact absurd ((getB_none b 11).symm.trans h0) (by simp)
    | e b => exact absurd ((getB_none b 11).symm.trans h0) (by simp)
  | o b =>
    rw [hb] at h0
    cases b with
    | z => exact .inr (.inl ⟨bits_inj (hb.trans bits1.symm), (Option.some.inj h0).symm⟩)
    | e b => exact absurd ((getB_none b 11).symm.trans h0) (by simp)
    | o b =>
      cases b with
      | z => exact .inr (.inr (.inr ⟨bits_inj (hb.trans bits3.symm), (Option.some.inj h0).symm⟩))
      | o b => exact absurd ((getB_none b 11).symm.trans h0) (by simp)
      | e b => exact absurd ((getB_none b 11).symm.trans h0) (by simp)

def env4 (bt bs bo bk : Nat) : Env := ⟨fun i => if i = 0 then bt else if i = 1 then bs else if i = 2 then bo else bk, fun _ => 0⟩
/-- The closure that makes the symbol of "123456": it ends, it says true, ten codewords lie in the outcome. -/
theorem enc22 (w : World) (base bt bs bo bk : Nat) (hbase : base ≤ bt) (h1 : bt < bo) (h2 : bo < bs) (h3 : bs < bk)
    (ht : w.heap[bt]? = some (.cells #[.string ⟨#[49, 50, 51, 52, 53, 54]⟩] 9 (0, 0))) (hs : w.heap[bs]? = some (.cells #[.int .i64 0] 53 (0, 0)))
    (ho : w.heap[bo]? = some (.cells #[.slice none 0 0] 34 (0, 0))) (hk : w.heap[bk]? = some (.cells #[.bool false] 4 (0, 0))) :
    Calls Tryz.prog 22 #[.pointer (some ⟨bt, 0, none⟩), .pointer (some ⟨bs, 0, none⟩), .pointer (some ⟨bo, 0, none⟩)] w fun e w' => e = .returned (.bool true) ∧ Below base w w' ∧
      (∃ u, w'.heap[bk]? = some (.cells #[u] 4 (0, 0))) ∧ ∃ g cap, w'.heap[bo]? = some (.cells #[.slice (some ⟨g, 0, none⟩) 10 cap] 34 (0, 0)) := by
  obtain ⟨h', f, o, g, r1, r2, r3, r4⟩ := fine4_some fine_run
  have hlt : bk < w.heap.size := (Array.getElem?_eq_some_iff.1 hk).1
  have hh : HR (env4 bt bs bo bk) base h4 w := by
    refine ⟨by omega, fun i o hi => ?_, fun i o hi _ => ?_, fun i hi => ?_, fun i o hi => ?_, fun i j o o' hi hj _ _ hs => ?_⟩
    · rcases h4_get hi with ⟨rfl, _⟩ | ⟨rfl, _⟩ | ⟨rfl, _⟩ | ⟨rfl, _⟩ <;> decide
    · simp only [env4]
      split <;> (try split) <;> (try split) <;> omega
    · simp only [env4]
      split <;> (try split) <;> (try split) <;> omega
    · rcases h4_get hi with ⟨rfl, rfl⟩ | ⟨rfl, rfl⟩ | ⟨rfl, rfl⟩ | ⟨rfl, rfl⟩
      · exact ⟨_, ht, rfl, row_one (z := .s ⟨#[49, 50, 51, 52, 53, 54]⟩) trivial rfl⟩
      · exact ⟨_, hs, rfl, row_one (z := .i .i64 0) trivial rfl⟩
      · exact ⟨_, ho, rfl, row_one (z := .ns) trivial rfl⟩
      · exact ⟨_, hk, rfl, row_one (z := .b false) trivial rfl⟩
    · rcases h4_get hi with ⟨rfl, _⟩ | ⟨rfl, _⟩ | ⟨rfl, _⟩ | ⟨rfl, _⟩ <;> rcases h4_get hj with ⟨rfl, _⟩ | ⟨rfl, _⟩ | ⟨rfl, _⟩ | ⟨rfl, _⟩ <;> first | rfl | (simp [env4] at hs; omega)
  have := run_calls good r1 hh (by show (0 < 4 ∧ 1 < 4 ∧ 2 < 4 ∧ True); decide)
  refine Calls.mono this fun e w' he => ?_
  obtain ⟨ρ', rfl, _, h4, h5, h6⟩ := he
  obtain ⟨c3, d1, d2, _⟩ := h5.obj 3 _ r2
  obtain ⟨c2, d3, d4, d5⟩ := h5.obj 2 _ r3
  obtain ⟨_, _, d6⟩ := d5 0 (by omega) _ r4
  have e3 : ρ'.σ 3 = bk := (h4 3 (by decide)).1
  have e2 : ρ'.σ 2 = bo := (h4 2 (by decide)).1
  rw [e3] at d1
  rw [e2] at d3
  have l3 : c3 = #[c3[0]'(by omega)] := by
    apply Array.ext (by simpa using d2)
    intro i hi1 hi2
    have : i = 0 := by omega
    subst this; rfl
  have l2 : c2 = #[c2[0]'(by omega)] := by
    apply Array.ext (by simpa using d4)
    intro i hi1 hi2
    have : i = 0 := by omega
    subst this; rfl
  refine ⟨rfl, h6, ⟨_, by rw [l3] at d1; exact d1⟩, ρ'.σ g, ρ'.κ g, ?_⟩
  have : c2[0]'(by omega) = conc ρ' (.g g 10) := by
    rw [Array.getElem?_eq_some_iff] at d6
    exact d6.2
  rw [l2, this] at d3
  exact d3
end Go.Proofs.YtcnallabiffemaaGreatDoor.Vm
