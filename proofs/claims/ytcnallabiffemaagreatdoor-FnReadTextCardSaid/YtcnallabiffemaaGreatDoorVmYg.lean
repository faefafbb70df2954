/- Triples, read value by value: the plain part, and the state. Conditions: none. -/
import Derived.Test.YtcnallabiffemaaGreatDoorVmYf
set_option linter.unusedSimpArgs false
set_option linter.unusedVariables false
namespace Go.Proofs.YtcnallabiffemaaGreatDoor.Vm
open Go
/-- What stands ahead, behind a shift or none. -/
def Pend (mode sh : Nat) (t l : List Nat) : Prop :=
  (sh = 0 ∧ Trip mode t l) ∨ (∃ v c t' r, 1 ≤ sh ∧ sh ≤ 3 ∧ mode ≠ 3 ∧ l = v :: r ∧ v < 32 ∧ shf mode sh v = some c ∧ t = c :: t' ∧ Trip mode t' r)
theorem Pend.step {mode sh x : Nat} {t l : List Nat} (h : Pend mode sh t (x :: l)) :
    (sh = 0 ∧ mode ≠ 3 ∧ x < 3 ∧ Pend mode (x + 1) t l) ∨ (∃ c t', t = c :: t' ∧ Pend mode 0 t' l ∧ ((sh = 0 ∧ x < 40 ∧ bas mode x = some c) ∨ (1 ≤ sh ∧ sh ≤ 3 ∧ mode ≠ 3 ∧ x < 32 ∧ shf mode sh x = some c))) := by
  rcases h with ⟨rfl, h⟩ | ⟨v, c, t', r, h1, h2, h3, h4, h5, h6, rfl, h7⟩
  · cases t with
    | nil => cases h
    | cons c t =>
      obtain ⟨vs, r, hv, e, hr⟩ := h
      rcases hv with ⟨v, rfl, v1, v2⟩ | ⟨set, v, rfl, s1, s2, s3, s4, s5⟩
      · injection e with e1 e2
        subst e1 e2
        exact .inr ⟨c, t, rfl, .inl ⟨rfl, hr⟩, .inl ⟨rfl, v1, v2⟩⟩
      · injection e with e1 e2
        subst e1 e2
        exact .inl ⟨rfl, s4, by omega, .inr ⟨v, c, t, r, by omega, by omega, s4, rfl, s3, by rw [show set - 1 + 1 = set by omega]; exact s5, rfl, hr⟩⟩
  · injection h4 with e1 e2
    subst e1 e2
    exact .inr ⟨c, t', rfl, .inl ⟨rfl, h7⟩, .inr ⟨h1, h2, h3, h5, h6⟩⟩
theorem Pend.nil {mode sh : Nat} {t : List Nat} (h : Pend mode sh t []) : t = [] := by
  rcases h with ⟨rfl, h⟩ | ⟨v, c, t', r, h1, h2, h3, h4, h5⟩
  · cases t with
    | nil => rfl
    | cons c t =>
      obtain ⟨vs, r, hv, e, hr⟩ := h
      have := hv.lt.2.2
      cases vs with
      | nil => exact absurd rfl this
      | cons a b => cases e
  · cases h4
theorem Trip.lt {mode : Nat} : ∀ {t l : List Nat}, Trip mode t l → ∀ x ∈ l, x < 40
  | [], l, h, x, hx => by
    obtain rfl : l = [] := h
    cases hx
  | c :: t, l, h, x, hx => by
    obtain ⟨v, r, h1, rfl, h2⟩ := h
    rw [List.mem_append] at hx
    rcases hx with hx | hx
    · exact h1.lt.1 x hx
    · exact h2.lt x hx
theorem Pend.lt {mode sh : Nat} {t l : List Nat} (h : Pend mode sh t l) : ∀ x ∈ l, x < 40 := by
  rcases h with ⟨rfl, h⟩ | ⟨v, c, t', r, h1, h2, h3, rfl, h5, h6, rfl, h7⟩
  · exact h.lt
  · intro x hx
    rcases List.mem_cons.1 hx with rfl | hx
    · omega
    · exact h7.lt x hx
theorem all40 {P : Nat → Bool} (h : (List.range 40).all P = true) (a : Nat) (ha : a < 40) : P a = true := List.all_eq_true.1 h a (List.mem_range.2 ha)
theorem bas1 {x c : Nat} (hx : x < 40) (h : bas 1 x = some c) : 3 ≤ x ∧ tab59.getD x 0 = c := by
  have := all40 (P := fun x => match bas 1 x with | some c => decide (3 ≤ x ∧ tab59.getD x 0 = c) | none => true) (by kernel_rfl) x hx
  simp only [h] at this
  exact of_decide_eq_true this
theorem bas2 {x c : Nat} (hx : x < 40) (h : bas 2 x = some c) : 3 ≤ x ∧ tab61.getD x 0 = c := by
  have := all40 (P := fun x => match bas 2 x with | some c => decide (3 ≤ x ∧ tab61.getD x 0 = c) | none => true) (by kernel_rfl) x hx
  simp only [h] at this
  exact of_decide_eq_true this
theorem bas3 {x c : Nat} (hx : x < 40) (h : bas 3 x = some c) : (x = 0 ∧ c = 13) ∨ (x = 1 ∧ c = 42) ∨ (x = 2 ∧ c = 62) ∨ (x = 3 ∧ c = 32) ∨ (4 ≤ x ∧ x < 14 ∧ c = x + 44) ∨ (14 ≤ x ∧ c = x + 51) := by
  have := all40 (P := fun x => match bas 3 x with | some c => decide ((x = 0 ∧ c = 13) ∨ (x = 1 ∧ c = 42) ∨ (x = 2 ∧ c = 62) ∨ (x = 3 ∧ c = 32) ∨ (4 ≤ x ∧ x < 14 ∧ c = x + 44) ∨ (14 ≤ x ∧ c = x + 51)) | none => true) (by kernel_rfl) x hx
  simp only [h] at this
  exact of_decide_eq_true this
theorem shf_1 {mode x c : Nat} (h : shf mode 1 x = some c) : c = x := by
  unfold shf at h
  rw [if_pos rfl] at h
  split at h
  · exact (Option.some.inj h).symm
  · cases h
theorem shf_2 {mode x c : Nat} (hx : x < 32) (h : shf mode 2 x = some c) : x < 27 ∧ tab60.getD x 0 = c := by
  unfold shf at h
  rw [if_neg (by omega)] at h
  split at h
  · rename_i h2
    refine ⟨h2.2, ?_⟩
    rw [← Option.some.inj h]
    have := all40 (P := fun x => decide (27 ≤ x ∨ tab60.getD x 0 = bt lit27 x)) (by kernel_rfl) x (by omega)
    rcases of_decide_eq_true this with h | h
    · omega
    · exact h
  · rw [if_neg (by omega)] at h; cases h
theorem shf13 {x c : Nat} (hx : x < 32) (h : shf 1 3 x = some c) : c = x + 96 := by
  unfold shf at h
  rw [if_neg (by omega), if_neg (by omega), if_pos (by omega), if_neg (by omega)] at h
  have := Option.some.inj h
  omega
theorem shf23 {x c : Nat} (hx : x < 32) (h : shf 2 3 x = some c) : tab62.getD x 0 = c := by
  have := all40 (P := fun x => match shf 2 3 x with | some c => decide (32 ≤ x ∨ tab62.getD x 0 = c) | none => true) (by kernel_rfl) x (by omega)
  simp only [h] at this
  rcases of_decide_eq_true this with h | h
  · omega
  · exact h
section
variable {W : List Nat} {data : AV} {bs id : Nat} {h0 h h' : AH} {v0 v v' : AV} {p o p' o' : Nat} {xs ys : List Nat}
theorem Dst.same (e : Envd data bs h0 v0) (d : Dst W data bs h0 v0 h v p o xs) (s : Same h.next h h') : Dst W data bs h0 v0 h' v p o xs where
  bits := d.bits.keep (s.get bs (Nat.lt_of_lt_of_le e.blt d.fr.next))
  data := d.data.keep s.next fun j hj => s.get j (d.data.lt hj)
  out := d.out.keep s.next fun j hj => s.get j (d.out.lt hj)
  fr := ⟨Nat.le_trans d.fr.next s.next, fun j h1 h2 h3 => by rw [s.get j (Nat.lt_of_lt_of_le h1 d.fr.next)]; exact d.fr.get j h1 h2 h3, d.fr.own⟩
theorem Dst.poke (e : Envd data bs h0 v0) (d : Dst W data bs h0 v0 h v p o xs) (hr : Read h h' id) (h1 : h0.next ≤ id) (h2 : ¬ Owns v id) : Dst W data bs h0 v0 h' v p o xs where
  bits := d.bits.keep (hr.2 bs (by have := e.blt; omega))
  data := d.data.keep (by rw [hr.1]; exact Nat.le_refl _) fun j hj => hr.2 j (by have := (e.od j hj).1; omega)
  out := d.out.keep (by rw [hr.1]; exact Nat.le_refl _) fun j hj => hr.2 j fun ej => h2 (ej ▸ hj)
  fr := ⟨by rw [hr.1]; exact d.fr.next, fun j a b c => by rw [hr.2 j (by omega)]; exact d.fr.get j a b c, d.fr.own⟩
end
/-- The state within a triple. -/
structure InvC (W : List Nat) (data : AV) (bs idc : Nat) (h0 : AH) (v0 : AV) (mode a b c : Nat) (r total : List Nat) (rg : T AV) (h : AH) (j p : Nat) (v : AV) (xs : List Nat) (sh : Nat) (t : List Nat) : Prop where
  r0 : T.get rg 0 = some (.p bs 0)
  r1 : T.get rg 1 = some v
  r8 : T.get rg 8 = some (.b false)
  r9 : T.get rg 9 = some (.sl idc 0 3 3)
  r10 : T.get rg 10 = some (.i .i64 (sh : Int))
  r15 : T.get rg 15 = some (.i .i64 (j : Int))
  d : Dst W data bs h0 v0 h v p 0 xs
  three : Three h idc a b c
  own : ¬ Owns v idc
  lt : idc < h.next
  pend : Pend mode sh t ([a, b, c].drop j ++ r)
  all : xs ++ t = total
/-- The state between triples. -/
structure InvO (W : List Nat) (data : AV) (bs idc : Nat) (h0 : AH) (v0 : AV) (mode : Nat) (total : List Nat) (rg : T AV) (h : AH) (p : Nat) (v : AV) (xs : List Nat) (sh : Nat) (t l ws : List Nat) : Prop where
  r0 : T.get rg 0 = some (.p bs 0)
  r1 : T.get rg 1 = some v
  r8 : T.get rg 8 = some (.b false)
  r9 : T.get rg 9 = some (.sl idc 0 3 3)
  r10 : T.get rg 10 = some (.i .i64 (sh : Int))
  d : Dst W data bs h0 v0 h v p 0 xs
  cells : ∃ cs, T.get h.objs idc = some (.cells 3 3 cs)
  own : ¬ Owns v idc
  lt : idc < h.next
  pend : Pend mode sh t l
  h3 : l.length % 3 = 0
  words : W.drop p = pairs l ++ 254 :: ws
  all : xs ++ t = total
end Go.Proofs.YtcnallabiffemaaGreatDoor.Vm
