/- From runs of the abstract machine to the real one, cell by cell. Conditions: none. -/
import Derived.Test.YtcnallabiffemaaGreatDoorVmYo
import Derived.Test.YtcnallabiffemaaGreatDoorVmR
namespace Go.Proofs.YtcnallabiffemaaGreatDoor.Vm
open Go Go.RowKit
theorem calls_of_runs {m f : Nat} {l : AV} {h : AH} {Q : AV → AH → Prop} (hr : Runs (fun k => cl Tryz.prog (exec Tryz.prog m) false f l h k ⟨⟩) Q) (h1 : Nat.beq f 127 = false) (h2 : Nat.beq f 41 = false) {ρ : Env} {base : Nat} {w : World} (hh : HR ρ base h w) (hl : ok h.next l) :
    Calls Tryz.prog f (concL ρ l).toArray w fun e w' => ∃ ρ' v h', Q v h' ∧ e = .returned (conc ρ' v) ∧ ok h'.next v ∧ Ext ρ h.next ρ' ∧ HR ρ' base h' w' ∧ Below base w w' := by
  obtain ⟨v, h', e, q⟩ := hr
  have e1 : run Tryz.prog m f l h = some (v, h') := (callAt_n Tryz.prog (exec Tryz.prog m) false f l h _ h1 h2).symm.trans (e fun v h => some (v, h))
  refine Calls.mono (run_calls good e1 hh hl) fun e w' he => ?_
  obtain ⟨ρ', g1, g2, g3, g4, g5⟩ := he
  exact ⟨ρ', v, h', q, g1, g2, g3, g4, g5⟩
/-- A cell more, known to the abstract machine. -/
theorem HR.cell {ρ : Env} {base : Nat} {h : AH} {w : World} {v : AV} {e : Nat} (hh : HR ρ base h w) (hv : ok h.next v) (hs : scalar v = true) :
    HR (ρ.up h.next w.heap.size 0) base ⟨T.put h.objs h.next (.cells e 1 (T.put .leaf 0 v)), h.next + 1⟩ (w.alloc (.cells #[conc ρ v] e)) := by
  have he := up_ext ρ h.next w.heap.size 0
  refine hh.add (ob := .cells e 1 (T.put .leaf 0 v)) (b := w.heap.size) (c := 0) (fun j => by simp only [get_put]) (by rw [alloc_size]; omega) ⟨hh.room, by rw [alloc_size]; omega⟩ (fun j o hj _ => Nat.ne_of_lt (hh.base j (hh.lt j o hj))) (fun j o hj _ => ?_) ?_
  · rw [alloc_get, if_neg (Nat.ne_of_lt (hh.base j (hh.lt j o hj)))]
  · refine ⟨#[conc ρ v], ?_, rfl, fun j hj u hu => ?_⟩
    · rw [up_σ, alloc_get, if_pos rfl]
    · obtain rfl : j = 0 := by omega
      rw [get_put, if_pos rfl] at hu
      obtain rfl := Option.some.inj hu
      exact ⟨ok_mono (Nat.le_succ _) _ hv, hs, by rw [(conc_ext he _ hv).1]; rfl⟩
theorem HR.alloc {ρ : Env} {base : Nat} {h : AH} {w : World} (hh : HR ρ base h w) (o : Obj) : HR ρ base h (w.alloc o) :=
  hh.more (by rw [alloc_size]; omega) fun b hb => by rw [alloc_get, if_neg (by omega)]
theorem Sl.conc {kd : IntKind} {e : Nat} {h : AH} {v : AV} {xs : List Nat} (hs : Sl kd e h v xs) (ρ : Env) : ∃ p c, Vm.conc ρ v = .slice p xs.length c := by
  cases hs with
  | ns => exact ⟨none, 0, rfl⟩
  | g id cs xs hid ho hx => exact ⟨_, _, rfl⟩
  | sl id cap cs xs hid ho hx hc => exact ⟨_, _, rfl⟩
theorem Sl.idlt {kd : IntKind} {e : Nat} {h : AH} {v : AV} {xs : List Nat} (hs : Sl kd e h v xs) (hx : xs ≠ []) : idOf v < h.next := by
  cases hs with
  | ns => exact absurd rfl hx
  | g id cs xs hid ho hx => exact hid
  | sl id cap cs xs hid ho hx hc => exact hid
/-- A cell's block, read back. -/
theorem HR.read {ρ : Env} {base : Nat} {h : AH} {w : World} (hh : HR ρ base h w) {id e : Nat} {c : T AV} {v : AV} (hg : T.get h.objs id = some (.cells e 1 c)) (hv : T.get c 0 = some v) : w.heap[ρ.σ id]? = some (.cells #[Vm.conc ρ v] e (0, 0)) := by
  obtain ⟨a, h1, h2, h3⟩ := hh.obj id _ hg
  obtain ⟨_, _, h4⟩ := h3 0 (by omega) v hv
  have : a = #[Vm.conc ρ v] := by
    apply Array.ext (by simpa using h2)
    intro i hi1 hi2
    have : i = 0 := by omega
    subst this
    rw [Array.getElem?_eq_getElem (by omega)] at h4
    exact Option.some.inj h4
  rw [h1, this]
theorem HR.cell1 {ρ : Env} {base : Nat} {h : AH} {w : World} (hh : HR ρ base h w) {id e : Nat} {c : T AV} (hg : T.get h.objs id = some (.cells e 1 c)) : ∃ u, w.heap[ρ.σ id]? = some (.cells #[u] e (0, 0)) := by
  obtain ⟨a, h1, h2, _⟩ := hh.obj id _ hg
  refine ⟨a[0]'(by omega), ?_⟩
  rw [h1]
  congr 1
  congr 1
  apply Array.ext (by simpa using h2)
  intro i hi1 hi2
  have : i = 0 := by omega
  subst this
  rfl
/-- What is left of the reading of octets. -/
def G8 (base : Nat) (w0 : World) (total : List Nat) (s : ByteArray) (w : World) : Prop := cs s = total ∧ Below base w0 w
theorem read8 {ρ : Env} {base : Nat} {h : AH} {w : World} {v : AV} {W total : List Nat} (hh : HR ρ base h w) (hs : Sl .i64 3 h v W) (hW : W.length < 4000) (hlt : ∀ x ∈ W, x < 256) (htok : Tok' 0 W total) (ht : total.length < 5000) (ht0 : total ≠ []) (htl : ∀ x ∈ total, x < 256) :
    Calls Tryz.prog 8 #[Vm.conc ρ v] w fun e w' => ∃ s, e = .returned (.tuple #[.string s, .bool true]) ∧ cs s = total ∧ Below base w w' := by
  have hW0 : W ≠ [] := by have := htok.len; intro e; rw [e] at this; simp at this
  -- the text's cell
  have hh1 := hh.cell (e := 9) (v := .s ⟨#[]⟩) trivial rfl
  have hs1 : Sl .i64 3 ⟨T.put h.objs h.next (.cells 9 1 (T.put .leaf 0 (.s ⟨#[]⟩))), h.next + 1⟩ v W := hs.keep (Nat.le_succ _) fun j hj => (Same.new h.objs h.next _).get j (hs.lt hj)
  have hb1 : Below base w (w.alloc (.cells #[.string ⟨#[]⟩] 9)) := (Below.refl base w).alloc hh.room _
  have c15 := calls_of_runs (m := 40000) (f15 (by omega) hs1 (by omega) hlt) rfl rfl hh1 ⟨hs1.ok, trivial⟩
  have ev : (concL (ρ.up h.next w.heap.size 0) (.c v .e)).toArray = #[Vm.conc ρ v] := by
    show #[Vm.conc (ρ.up h.next w.heap.size 0) v] = _
    rw [(conc_ext (up_ext ρ h.next w.heap.size 0) v hs.ok).1]
  rw [ev] at c15
  refine Calls.mono (walk8 (Vm.conc ρ v) w
    (fun p l c w' => ∃ ρ2 h2 u, HR ρ2 base h2 w' ∧ Below base w w' ∧ Vm.conc ρ2 u = .slice p l c ∧ Sl .u8 5 h2 u W ∧ T.get h2.objs h.next = some (.cells 9 1 (T.put .leaf 0 (.s ⟨#[]⟩))) ∧ h.next < h2.next ∧ ρ2.σ h.next = w.heap.size)
    (G8 base w total) (Calls.mono c15 ?_) ?_) ?_
  · rintro e w' ⟨ρ2, _, h2, ⟨u, rfl, q1, q2⟩, rfl, _, g1, g2, g3⟩
    obtain ⟨p, c, ec⟩ := q1.sl.conc ρ2
    refine ⟨p, W.length, c, ?_, ρ2, h2, u, g2, hb1.trans g3, ec, q1.sl, ?_, q2.next, ?_⟩
    · show Ending.returned (.tuple #[Vm.conc ρ2 u, .bool true]) = _
      rw [ec]
    · rw [q2.get h.next (Nat.lt_succ_self _)]
      simp only [get_put, if_true]
    · rw [(g1 h.next (Nat.lt_succ_self _)).1, up_σ]
  · rintro p l c w' ⟨ρ2, h2, u, k1, k2, k3, k4, k5, k6, k7⟩
    have hw' : w.heap.size < w'.heap.size := by rw [← k7]; exact k1.base _ k6
    -- the cell of the octets, the cell of the answer
    have k1a := k1.cell (e := 42) (v := u) k4.ok k4.sc
    rw [k3] at k1a
    have e1 := up_ext ρ2 h2.next w'.heap.size 0
    have k1b := k1a.cell (e := 4) (v := .b false) trivial rfl
    have e2 := up_ext (ρ2.up h2.next w'.heap.size 0) (h2.next + 1) (w'.alloc (.cells #[.slice p l c] 42)).heap.size 0
    generalize hρ3 : (ρ2.up h2.next w'.heap.size 0).up (h2.next + 1) (w'.alloc (.cells #[.slice p l c] 42)).heap.size 0 = ρ3 at *
    have hH0 : T.get (T.put (T.put h2.objs h2.next (.cells 42 1 (T.put .leaf 0 u))) (h2.next + 1) (.cells 4 1 (T.put .leaf 0 (.b false)))) h2.next = some (.cells 42 1 (T.put .leaf 0 u)) := by
      simp only [get_put, if_true]; rw [if_neg (by omega)]
    have hH1 : T.get (T.put (T.put h2.objs h2.next (.cells 42 1 (T.put .leaf 0 u))) (h2.next + 1) (.cells 4 1 (T.put .leaf 0 (.b false)))) h.next = some (.cells 9 1 (T.put .leaf 0 (.s ⟨#[]⟩))) := by
      simp only [get_put]; rw [if_neg (by omega), if_neg (by omega)]; exact k5
    have hu3 : Sl .u8 5 ⟨T.put (T.put h2.objs h2.next (.cells 42 1 (T.put .leaf 0 u))) (h2.next + 1) (.cells 4 1 (T.put .leaf 0 (.b false))), h2.next + 1 + 1⟩ u W := k4.keep (by show h2.next ≤ h2.next + 1 + 1; omega) fun j hj => by
      have := k4.lt hj
      simp only [get_put]; rw [if_neg (by omega), if_neg (by omega)]
    have c17 := calls_of_runs (m := 80000) (f17 (i0 := h2.next) (i1 := h.next) (by omega) hu3 hW hlt htok ht ht0 htl (by have := k4.idlt hW0; show idOf u ≠ h2.next + 1 + 1; omega) hH0 (by simp only [get_put, if_true]) hH1 (by show h.next < h2.next + 1 + 1; omega)) rfl rfl k1b ⟨by show h2.next < h2.next + 1 + 1; omega, by show h.next < h2.next + 1 + 1; omega, trivial⟩
    have s0 : ρ3.σ h2.next = w'.heap.size := by rw [(e2 h2.next (Nat.lt_succ_self _)).1, up_σ]
    have s1 : ρ3.σ h.next = w.heap.size := by rw [(e2 h.next (by omega)).1, (e1 h.next k6).1, k7]
    have s2 : ρ3.σ (h2.next + 1) = w'.heap.size + 1 := by rw [← hρ3, up_σ, alloc_size]
    have ea : (concL ρ3 (.c (.p h2.next 0) (.c (.p h.next 0) .e))).toArray = #[.pointer (some ⟨w'.heap.size, 0, none⟩), .pointer (some ⟨w.heap.size, 0, none⟩)] := by
      show #[Value.pointer (some ⟨ρ3.σ h2.next, 0, none⟩), Value.pointer (some ⟨ρ3.σ h.next, 0, none⟩)] = _
      rw [s0, s1]
    rw [ea] at c17
    have hsz : (w'.alloc (.cells #[.slice p l c] 42)).heap.size = w'.heap.size + 1 := alloc_size _ _
    refine Calls.mono (try17 _ _ _ (fun w2 => ∃ s, w2.heap[w.heap.size]? = some (.cells #[.string s] 9 (0, 0)) ∧ cs s = total ∧ Below base w w2) (Calls.mono c17 ?_)) ?_
    · rintro e w3 ⟨ρ4, _, h4, ⟨rfl, ⟨c4, s, q1, q2, q3⟩, q4⟩, rfl, _, g1, g2, g3⟩
      have t1 : ρ4.σ h.next = w.heap.size := by rw [(g1 h.next (by show h.next < h2.next + 1 + 1; omega)).1, s1]
      have t2 : ρ4.σ (h2.next + 1) = w'.heap.size + 1 := by rw [(g1 (h2.next + 1) (by show h2.next + 1 < h2.next + 1 + 1; omega)).1, s2]
      have hbk : T.get h4.objs (h2.next + 1) = some (.cells 4 1 (T.put .leaf 0 (.b false))) := by
        rw [q4 (h2.next + 1) (by show h2.next + 1 < h2.next + 1 + 1; omega) (by omega)]
        simp only [get_put, if_true]
      obtain ⟨ub, hub⟩ := g2.cell1 hbk
      rw [t2] at hub
      have hrd := g2.read q1 q2
      rw [t1] at hrd
      refine ⟨rfl, ⟨ub, ?_⟩, ?_, s, hrd, q3, ?_⟩
      · rw [hsz]; simp [World.cell?, hub]
      · rw [hsz]; simp [World.frozen?, hub]
      · refine k2.trans (Below.trans ?_ g3)
        exact ((Below.refl base w').alloc k1.room _).alloc (by rw [hsz]; have := k1.room; omega) _
    · rintro e w3 ⟨rfl, w2, ⟨s, h1, h2', h3⟩, rfl⟩
      rw [hsz]
      have h5 : (w2.setCell ⟨w'.heap.size + 1, 0, none⟩ (.bool true)).heap[w.heap.size]? = some (.cells #[.string s] 9 (0, 0)) := by
        rw [Below.heap_setCell _ _ _ _ (by show w.heap.size ≠ w'.heap.size + 1; omega)]; exact h1
      refine ⟨rfl, s, by simp [World.cell?, h5], by simp [World.frozen?, h5], h2', h3.trans ?_⟩
      exact below_block rfl rfl rfl (by simp [World.setCell]) (b := w'.heap.size + 1) (by have := k1.room; omega) fun c hc => Below.heap_setCell _ _ _ _ hc
  · rintro e w3 ⟨s, w2, rfl, ⟨h1, h2⟩, rfl⟩
    refine ⟨s, rfl, h1, h2.trans ?_⟩
    exact below_block rfl rfl rfl (by simp [World.setCell]) (b := w.heap.size) hh.room fun c hc => Below.heap_setCell _ _ _ _ hc
end Go.Proofs.YtcnallabiffemaaGreatDoor.Vm
