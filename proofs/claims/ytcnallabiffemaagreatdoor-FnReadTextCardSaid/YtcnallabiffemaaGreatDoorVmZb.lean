/- The statement's walk, for every text, every row of choices and every number. Conditions: the row of choices lies in the memory. -/
import Derived.Test.YtcnallabiffemaaGreatDoorVmZa
namespace Go.Proofs.YtcnallabiffemaaGreatDoor.Vm
open Go Go.RowKit
/-- Whole numbers laid in a row, from a place on. -/
noncomputable def layI (t : T AV) (off : Nat) : List Int → T AV
  | [] => t
  | z :: l => layI (T.put t off (.i .i64 z)) (off + 1) l
theorem get_layI : ∀ (l : List Int) (t : T AV) (off j : Nat), T.get (layI t off l) j = if off ≤ j ∧ j < off + l.length then some (.i .i64 (l.getD (j - off) 0)) else T.get t j
  | [], t, off, j => by
    rw [layI, if_neg]
    simp
  | z :: l, t, off, j => by
    rw [layI, get_layI l, get_put]
    by_cases h : j = off
    · subst h
      rw [if_neg (by omega), if_pos rfl, if_pos (by simp), Nat.sub_self]
      rfl
    · by_cases h2 : off ≤ j ∧ j < off + (z :: l).length
      · rw [if_pos h2, if_pos (by simp only [List.length_cons] at h2; omega), show j - off = (j - (off + 1)) + 1 by omega]
        rfl
      · rw [if_neg h2, if_neg (by simp only [List.length_cons] at h2; omega), if_neg h]
/-- The row of choices, known to the abstract machine. -/
theorem choicesNil (W : World) : ∃ ρ h u, Vm.conc ρ u = .slice none 0 0 ∧ HR ρ W.heap.size h W ∧ ok h.next u ∧ RoS h.next h u [] := by
  refine ⟨⟨fun _ => 0, fun _ => 0⟩, ⟨.leaf, 0⟩, .ns, rfl, ⟨Nat.le_refl _, fun i o hi => ?_, fun i o hi _ => ?_, fun i hi => absurd hi (Nat.not_lt_zero _), fun i o hi => ?_, fun i j o o' hi _ _ _ _ => ?_⟩, trivial, ⟨fun k w => ln_n22 k w, fun _ _ j hj => absurd hj (Nat.not_lt_zero _), fun z hz => by cases hz⟩⟩ <;>
    exact absurd ((get_full_none 0 i).symm.trans hi) (by simp)
theorem choicesSome (W : World) (b off len cap : Nat) (zs : List Int) (hb : b < W.heap.size) (hl : zs.length = len) (hz : ∀ z ∈ zs, -9223372036854775808 ≤ z ∧ z < 9223372036854775808) (hc : ∀ i, i < len → W.cell? ⟨b, off + i, none⟩ = some (.int .i64 (zs.getD i 0))) :
    ∃ ρ h u, Vm.conc ρ u = .slice (some ⟨b, off, none⟩) len cap ∧ HR ρ W.heap.size h W ∧ ok h.next u ∧ RoS h.next h u zs := by
  subst hl
  rcases Nat.eq_zero_or_pos zs.length with h0 | hpos
  · obtain rfl : zs = [] := List.eq_nil_of_length_eq_zero h0
    refine ⟨⟨fun _ => b, fun _ => 0⟩, ⟨.leaf, 1⟩, .sl 0 off 0 cap, rfl, ⟨Nat.le_refl _, fun i o hi => ?_, fun i o hi _ => ?_, fun i hi => hb, fun i o hi => ?_, fun i j o o' hi _ _ _ _ => ?_⟩, Nat.zero_lt_one, ⟨fun k w => ln_sl22 _ _ _ _ k w, fun _ _ j hj => absurd hj (Nat.not_lt_zero _), fun z hz => by cases hz⟩⟩ <;>
      exact absurd ((get_full_none 0 i).symm.trans hi) (by simp)
  · have h1 := hc 0 hpos
    obtain ⟨c, e, fz, hblk⟩ : ∃ c e fz, W.heap[b]? = some (.cells c e fz) := by
      unfold World.cell? at h1
      simp at h1
      split at h1
      · rename_i c e fz hblk; exact ⟨c, e, fz, hblk⟩
      · cases h1
    have hcell : ∀ i, i < zs.length → c[off + i]? = some (.int .i64 (zs.getD i 0)) := fun i hi => by
      have := hc i hi
      simpa [World.cell?, hblk] using this
    refine ⟨⟨fun _ => b, fun _ => 0⟩, ⟨T.put .leaf 0 (.ro e (off + zs.length) (layI .leaf off zs)), 1⟩, .sl 0 off zs.length cap, rfl, ⟨Nat.le_refl _, fun i o hi => ?_, fun i o hi hr => ?_, fun i hi => hb, fun i o hi => ?_, fun i j o o' hi hj _ _ _ => ?_⟩, Nat.zero_lt_one, ⟨fun k w => ln_sl22 _ _ _ _ k w, fun h' hs j hj => ?_, hz⟩⟩
    · have hi : T.get (T.put .leaf 0 (AO.ro e (off + zs.length) (layI .leaf off zs))) i = some o := hi
      rw [get_put] at hi
      split at hi
      · show i < 1; omega
      · exact absurd ((get_full_none 0 i).symm.trans hi) (by simp)
    · have hi : T.get (T.put .leaf 0 (AO.ro e (off + zs.length) (layI .leaf off zs))) i = some o := hi
      rw [get_put] at hi
      split at hi
      · obtain rfl := Option.some.inj hi
        cases hr
      · exact absurd ((get_full_none 0 i).symm.trans hi) (by simp)
    · have hi : T.get (T.put .leaf 0 (AO.ro e (off + zs.length) (layI .leaf off zs))) i = some o := hi
      rw [get_put] at hi
      split at hi
      · obtain rfl := Option.some.inj hi
        refine ⟨c, fz, hblk, fun j hj v hv => ?_⟩
        rw [get_layI] at hv
        split at hv
        · rename_i hjj
          obtain rfl := Option.some.inj hv
          have := hcell (j - off) (by omega)
          rw [show off + (j - off) = j by omega] at this
          exact ⟨trivial, rfl, this⟩
        · exact absurd ((get_full_none 0 j).symm.trans hv) (by simp)
      · exact absurd ((get_full_none 0 i).symm.trans hi) (by simp)
    · have hi : T.get (T.put .leaf 0 (AO.ro e (off + zs.length) (layI .leaf off zs))) i = some o := hi
      have hj : T.get (T.put .leaf 0 (AO.ro e (off + zs.length) (layI .leaf off zs))) j = some o' := hj
      rw [get_put] at hi hj
      split at hi
      · split at hj
        · omega
        · exact absurd ((get_full_none 0 j).symm.trans hj) (by simp)
      · exact absurd ((get_full_none 0 i).symm.trans hi) (by simp)
    · refine ⟨.p 0 (off + j), fun k w => ?_, fun k w => ?_⟩
      · rw [ix_sl, decide_eq_true hj, chk_t]
      · refine ld_p k h' 0 (off + j) w (.ro e (off + zs.length) (layI .leaf off zs)) ?_ _ ?_
        · rw [hs.get 0 Nat.zero_lt_one]
          simp only [get_put, if_true]
        · rw [at_ro, if_pos (by omega), get_layI, if_pos (by omega), show off + j - off = j by omega]
end Go.Proofs.YtcnallabiffemaaGreatDoor.Vm
