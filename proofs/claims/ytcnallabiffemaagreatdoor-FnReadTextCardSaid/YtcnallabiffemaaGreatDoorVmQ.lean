/- The closed call's callers: the guard against panics, the entry, the test. Conditions: none. -/
import Derived.Test.YtcnallabiffemaaGreatDoorVmP
import Derived.Defers
import Derived.Recover
import Derived.Tactics2
import Derived.Laws.Pointers
namespace Go.Proofs.YtcnallabiffemaaGreatDoor.Vm
open Go Go.RowKit

theorem catch_idle (p : Addr) (w : World) :
    CallsD Tryz.prog 31 #[.pointer (some p)] .returning w fun e u' w' => e = .returned (.tuple #[]) ∧ u' = .returning ∧ w' = w := by
  refine callsD_of_wpS Tryz.func31 rfl fun c₀ cs hu => ?_
  apply wpS_seq
  apply wpS_region
  simp [wpOpsS, go_sem, recoverD, hu, Tryz.ntmps31, Exit.thenS]
  refine wpS_cond (t := false) (by simp [Act.eval, Array.replicate]) ?_
  simp only [Bool.false_eq_true, if_false]
  refine wpS_of_wp (wp_skip ?_)
  cases c₀
  simp_all [bodyPostS, results, Tryz.results31]
def Left22 (k : Nat) (K : World → Prop) (e : Ending) (w' : World) : Prop := e = .returned (.bool true) ∧ (∃ u, w'.cell? ⟨k, 0, none⟩ = some u) ∧ w'.frozen? ⟨k, 0, none⟩ = false ∧ K w'
theorem try22 (p1 p2 p3 : Value) (w : World) (K : World → Prop) (h22 : Calls Tryz.prog 22 #[p1, p2, p3] (w.alloc (.cells #[.bool false] 4)) (Left22 w.heap.size K)) :
    Calls Tryz.prog 16 #[.func (.func 22) #[] #[p1, p2, p3]] w fun e w' => e = .returned (.bool true) ∧ ∃ w2, K w2 ∧ w' = w2.setCell ⟨w.heap.size, 0, none⟩ (.bool true) := by
  have hmf : ∀ (fn : Fn) (first cap : Array Value) (w : World), (Instr.makeFunc fn first cap).run Tryz.prog w = .ok (.func fn first cap) w := fun _ _ _ _ => rfl
  go_enter_defers Tryz.func16, Tryz.ntmps16
  go_wp2_with (go_at_call 22; refine h22.mono ?_; rintro e w' ⟨rfl, ⟨u, hc⟩, hz, hq⟩)
  refine leaves_cons (f := 31) (args := #[.pointer (some ⟨w.heap.size, 0, none⟩)]) (by simp) (by simp [go_sem]) ?_
  refine (catch_idle ⟨w.heap.size, 0, none⟩ _).mono ?_
  rintro e u' w'' ⟨rfl, rfl, rfl⟩
  simp [Leaves, settle, results, Tryz.results16, go_sem]
  rw [World.cell?_setCell_same _ _ _ hc]
  exact ⟨_, rfl, rfl, w', hq, rfl⟩
noncomputable def h0 : AH := ⟨T.full none 6, 0⟩
noncomputable def isI (v : AV) (n : Nat) : Bool := AV.rec (motive := fun _ => Bool) (fun _ => false) (fun k x => Int.rec (motive := fun _ => Bool) (fun m => Bool.rec (motive := fun _ => Bool) false (Nat.beq (kn k) 3) (Nat.beq m n)) (fun _ => false) x) (fun _ => false) (fun _ _ => false) false (fun _ _ _ _ => false) (fun _ _ => false) false (fun _ _ _ => false) false (fun _ _ _ => false) false (fun _ _ => false) (fun _ _ => false) false (fun _ _ _ _ => false) (fun _ => false) v
theorem isI_some {v : AV} {n : Nat} (h : isI v n = true) : v = .i .i64 (.ofNat n) := by
  cases v with
  | i k x =>
    cases x with
    | ofNat m =>
      obtain ⟨h1, h2⟩ := brec_true (show Bool.rec (motive := fun _ => Bool) false (Nat.beq (kn k) 3) (Nat.beq m n) = true from h)
      obtain rfl : m = n := Nat.eq_of_beq_eq_true h1
      obtain rfl : k = .i64 := kn_inj (b := .i64) h2
      rfl
    | negSucc m => cases h
  | _ => cases h
noncomputable def fine21 (r : R) : Bool :=
  orNo r fun vh => AV.rec (motive := fun _ => Bool) (fun _ => false) (fun _ _ => false) (fun _ => false) (fun _ _ => false) false (fun _ _ _ _ => false) (fun _ _ => false) false (fun _ _ _ => false) false (fun _ _ _ => false) false (fun _ _ => false)
    (fun l _ => AV.rec (motive := fun _ => Bool) (fun _ => false) (fun _ _ => false) (fun _ => false) (fun _ _ => false) false (fun _ _ _ _ => false) (fun _ _ => false) false (fun _ _ _ => false) false (fun _ _ _ => false) false (fun _ _ => false) (fun _ _ => false) false
      (fun x m _ _ => AV.rec (motive := fun _ => Bool) (fun _ => false) (fun _ _ => false) (fun _ => false) (fun _ _ => false) false (fun _ _ _ _ => false) (fun _ _ => false) false (fun _ _ _ => false) false (fun _ _ _ => false) false (fun _ _ => false) (fun _ _ => false) false
        (fun y z _ _ => AV.rec (motive := fun _ => Bool) (fun _ => false) (fun _ _ => false) (fun _ => false) (fun _ _ => false) false (fun _ _ _ _ => false) (fun _ _ => false) false (fun _ _ _ => false) false (fun _ _ _ => false) false (fun _ _ => false) (fun _ _ => false) (isI x 0 && isB y) (fun _ _ _ _ => false) (fun _ => false) z) (fun _ => false) m) (fun _ => false) l) false (fun _ _ _ _ => false) (fun _ => false) vh.1
theorem run21 : fine21 (run Tryz.prog 100 21 (.c (.i .i64 0) .e) h0) = true := by kernel_rfl
theorem fine21_some {r : R} (h : fine21 r = true) : ∃ h', r = some (.tu (.c (.i .i64 0) (.c (.b true) .e)), h') := by
  obtain ⟨⟨v, h'⟩, rfl, h1⟩ := orNo_some h
  cases v with
  | tu l =>
    cases l with
    | c x m =>
      cases m with
      | c y z =>
        cases z with
        | e =>
          have h2 : (isI x 0 && isB y) = true := h1
          rw [Bool.and_eq_true] at h2
          rw [isI_some h2.1, isB_some h2.2]
          exact ⟨h', rfl⟩
        | _ => cases h1
      | _ => cases h1
    | _ => cases h1
  | _ => cases h1
theorem shapes0 (w : World) : Calls Tryz.prog 21 #[.int .i64 0] w fun e w' => e = .returned (.tuple #[.int .i64 0, .bool true]) ∧ Below w.heap.size w w' := by
  obtain ⟨h', r1⟩ := fine21_some run21
  have hh : HR ⟨fun _ => 0, fun _ => 0⟩ w.heap.size h0 w := by
    refine ⟨Nat.le_refl _, fun i o hi => ?_, fun i o hi _ => ?_, fun i hi => absurd hi (by show ¬ i < 0; omega), fun i o hi => ?_, fun i j o o' hi _ _ _ _ => ?_⟩ <;>
      exact absurd ((getB_none (bits i) 6).symm.trans hi) (by simp)
  refine Calls.mono (run_calls good r1 hh ⟨trivial, trivial⟩) fun e w' he => ?_
  obtain ⟨ρ', rfl, _, _, _, h6⟩ := he
  exact ⟨by simp [conc, concL], h6⟩
theorem alloc_get (w : World) (o : Obj) (k : Nat) : (w.alloc o).heap[k]? = if k = w.heap.size then some o else w.heap[k]? := Array.getElem?_push
theorem alloc_size (w : World) (o : Obj) : (w.alloc o).heap.size = w.heap.size + 1 := by show (w.heap.push o).size = _; simp
/-- What is left of the guarded closure. -/
def LeftTry (w : World) (e : Ending) (w' : World) : Prop :=
  e = .returned (.bool true) ∧ ∃ g cap, w'.cell? ⟨w.heap.size + 1, 0, none⟩ = some (.slice (some ⟨g, 0, none⟩) 10 cap) ∧ w'.frozen? ⟨w.heap.size + 1, 0, none⟩ = false ∧ Below w.heap.size w w'
theorem try_enc (w w1 : World) (hb : Below ((w.alloc (.cells #[.string ⟨#[49, 50, 51, 52, 53, 54]⟩] 9)).alloc (.cells #[.slice none 0 0] 34)).heap.size ((w.alloc (.cells #[.string ⟨#[49, 50, 51, 52, 53, 54]⟩] 9)).alloc (.cells #[.slice none 0 0] 34)) w1) :
    Calls Tryz.prog 16 #[.func (.func 22) #[] #[.pointer (some ⟨w.heap.size, 0, none⟩), .pointer (some ⟨w1.heap.size, 0, none⟩), .pointer (some ⟨w.heap.size + 1, 0, none⟩)]] (w1.alloc (.cells #[.int .i64 0] 53)) (LeftTry w) := by
  have hs : ((w.alloc (.cells #[.string ⟨#[49, 50, 51, 52, 53, 54]⟩] 9)).alloc (.cells #[.slice none 0 0] 34)).heap.size = w.heap.size + 2 := by rw [alloc_size, alloc_size]
  have hle : w.heap.size + 2 ≤ w1.heap.size := by have := hb.size; omega
  have b0 : Below w.heap.size w w1 := by
    refine Below.trans ?_ (hb.mono (by omega))
    exact (Below.refl _ w).alloc (Nat.le_refl _) _ |>.alloc (by rw [alloc_size]; omega) _
  have ht : w1.heap[w.heap.size]? = some (.cells #[.string ⟨#[49, 50, 51, 52, 53, 54]⟩] 9 (0, 0)) := by
    rw [hb.block _ (by omega), alloc_get, alloc_size, if_neg (by omega), alloc_get, if_pos rfl]
  have ho : w1.heap[w.heap.size + 1]? = some (.cells #[.slice none 0 0] 34 (0, 0)) := by
    rw [hb.block _ (by omega), alloc_get, alloc_size, if_pos rfl]
  let K : World → Prop := fun w2 => Below w.heap.size w w2 ∧ ∃ g cap, w2.heap[w.heap.size + 1]? = some (.cells #[.slice (some ⟨g, 0, none⟩) 10 cap] 34 (0, 0))
  have hsz : (w1.alloc (.cells #[.int .i64 0] 53)).heap.size = w1.heap.size + 1 := alloc_size _ _
  refine Calls.mono (try22 _ _ _ _ K ?_) ?_
  · rw [hsz]
    refine Calls.mono (enc22 _ w.heap.size w.heap.size w1.heap.size (w.heap.size + 1) (w1.heap.size + 1) (Nat.le_refl _) (by omega) (by omega) (by omega) ?_ ?_ ?_ ?_) ?_
    · rw [← ht, alloc_get, alloc_size, if_neg (by omega), alloc_get, if_neg (by omega)]
    · rw [alloc_get, alloc_size, if_neg (by omega), alloc_get, if_pos rfl]
    · rw [← ho, alloc_get, alloc_size, if_neg (by omega), alloc_get, if_neg (by omega)]
    · rw [alloc_get, alloc_size, if_pos rfl]
    · rintro e w' ⟨rfl, h1, ⟨u, h2⟩, g, cap, h3⟩
      refine ⟨rfl, ⟨u, by simp [World.cell?, h2]⟩, by simp [World.frozen?, h2], ?_, g, cap, h3⟩
      refine b0.trans (Below.trans ?_ h1)
      exact ((Below.refl w.heap.size w1).alloc (by omega) _).alloc (by rw [hsz]; omega) _
  · rintro e w' ⟨rfl, w2, ⟨h1, g, cap, h2⟩, rfl⟩
    rw [hsz]
    have h3 : (w2.setCell ⟨w1.heap.size + 1, 0, none⟩ (.bool true)).heap[w.heap.size + 1]? = some (.cells #[.slice (some ⟨g, 0, none⟩) 10 cap] 34 (0, 0)) := by
      rw [Below.heap_setCell _ _ _ _ (by show w.heap.size + 1 ≠ w1.heap.size + 1; omega)]; exact h2
    exact ⟨rfl, g, cap, by simp [World.cell?, h3], by simp [World.frozen?, h3], h1.trans (below_block rfl rfl rfl (by simp [World.setCell]) (b := w1.heap.size + 1) (by omega) fun c hc => Below.heap_setCell _ _ _ _ hc)⟩
/-- The codewords of "123456": ten of them. -/
def LeftEnc (w : World) (e : Ending) (w' : World) : Prop := ∃ g cap, e = .returned (.tuple #[.slice (some ⟨g, 0, none⟩) 10 cap, .bool true]) ∧ Below w.heap.size w w'
theorem enc_walk (w : World) : Calls Tryz.prog 11 #[.string ⟨#[49, 50, 51, 52, 53, 54]⟩, .int .i64 0] w (LeftEnc w) := by
  have hmf : ∀ (fn : Fn) (first cap : Array Value) (w : World), (Instr.makeFunc fn first cap).run Tryz.prog w = .ok (.func fn first cap) w := fun _ _ _ _ => rfl
  go_enter Tryz.func11, Tryz.ntmps11
  go_wp2_with (go_at_call 21; refine (shapes0 _).mono ?_; rintro e w' ⟨rfl, hb⟩)
  refine (try_enc w w' hb).mono ?_
  rintro e w2 ⟨rfl, g, cap, hc, hz, hbw⟩
  go_wp2
  refine ⟨rfl, .tuple #[.slice (some ⟨g, 0, none⟩) 10 cap, .bool true], ?_, g, cap, rfl, hbw.setCell (by show w.heap.size ≤ w.heap.size + 1; omega) _⟩
  simp [results, Tryz.results11, go_sem, World.cell?_setCell_same _ _ _ hc]
theorem works_walk (w : World) : Calls Tryz.prog 5 #[] w fun e w' => e = .returned (.bool true) ∧ Below w.heap.size w w' := by
  go_enter Tryz.func5, Tryz.ntmps5
  go_wp2_with (go_at_call 11; refine (enc_walk _).mono ?_; rintro e w' ⟨g, cap, rfl, hb⟩)
  go_ret
  exact ⟨rfl, hb⟩
end Go.Proofs.YtcnallabiffemaaGreatDoor.Vm
