/- The reading of codewords and the statement, walked through by their calls. Conditions: what the callees do is told. -/
import Derived.Test.YtcnallabiffemaaGreatDoorVmQ
import Derived.Tactics2
namespace Go.Proofs.YtcnallabiffemaaGreatDoor.Vm
open Go Go.RowKit
theorem try17 (p1 p2 : Value) (w : World) (K : World → Prop) (h17 : Calls Tryz.prog 17 #[p1, p2] (w.alloc (.cells #[.bool false] 4)) (Left22 w.heap.size K)) :
    Calls Tryz.prog 16 #[.func (.func 17) #[] #[p1, p2]] w fun e w' => e = .returned (.bool true) ∧ ∃ w2, K w2 ∧ w' = w2.setCell ⟨w.heap.size, 0, none⟩ (.bool true) := by
  have hmf : ∀ (fn : Fn) (first cap : Array Value) (w : World), (Instr.makeFunc fn first cap).run Tryz.prog w = .ok (.func fn first cap) w := fun _ _ _ _ => rfl
  go_enter_defers Tryz.func16, Tryz.ntmps16
  go_wp2_with (go_at_call 17; refine h17.mono ?_; rintro e w' ⟨rfl, ⟨u, hc⟩, hz, hq⟩)
  refine leaves_cons (f := 31) (args := #[.pointer (some ⟨w.heap.size, 0, none⟩)]) (by simp) (by simp [go_sem]) ?_
  refine (catch_idle ⟨w.heap.size, 0, none⟩ _).mono ?_
  rintro e u' w'' ⟨rfl, rfl, rfl⟩
  simp [Leaves, settle, results, Tryz.results16, go_sem]
  rw [World.cell?_setCell_same _ _ _ hc]
  exact ⟨_, rfl, rfl, w', hq, rfl⟩
theorem walk8 (dv : Value) (w : World) (S : Option Addr → Nat → Nat → World → Prop) (G : ByteArray → World → Prop)
    (h15 : Calls Tryz.prog 15 #[dv] (w.alloc (.cells #[.string ⟨#[]⟩] 9)) fun e w' => ∃ p l c, e = .returned (.tuple #[.slice p l c, .bool true]) ∧ S p l c w')
    (h16 : ∀ p l c w', S p l c w' → Calls Tryz.prog 16 #[.func (.func 17) #[] #[.pointer (some ⟨w'.heap.size, 0, none⟩), .pointer (some ⟨w.heap.size, 0, none⟩)]] (w'.alloc (.cells #[.slice p l c] 42)) fun e w2 =>
      e = .returned (.bool true) ∧ ∃ s, w2.cell? ⟨w.heap.size, 0, none⟩ = some (.string s) ∧ w2.frozen? ⟨w.heap.size, 0, none⟩ = false ∧ G s w2) :
    Calls Tryz.prog 8 #[dv] w fun e w3 => ∃ s w2, e = .returned (.tuple #[.string s, .bool true]) ∧ G s w2 ∧ w3 = w2.setCell ⟨w.heap.size, 0, none⟩ (.string s) := by
  have hmf : ∀ (fn : Fn) (first cap : Array Value) (w : World), (Instr.makeFunc fn first cap).run Tryz.prog w = .ok (.func fn first cap) w := fun _ _ _ _ => rfl
  go_enter Tryz.func8, Tryz.ntmps8
  go_wp2_with (go_at_call 15; refine h15.mono ?_; rintro e w' ⟨p, l, c, rfl, hs⟩)
  refine (h16 p l c w' hs).mono ?_
  rintro e w2 ⟨rfl, s, hc, hz, hg⟩
  go_wp2
  refine ⟨rfl, .tuple #[.string s, .bool true], ?_, s, w2, rfl, hg, rfl⟩
  simp [results, Tryz.results8, go_sem, World.cell?_setCell_same _ _ _ hc]
theorem walk3 (s : ByteArray) (p : Option Addr) (l c : Nat) (n : Int) (w : World) (A : World → Prop) (B : Option Addr → Nat → Nat → World → Prop) (C : Option Addr → Nat → Nat → Int → Int → Int → Int → Int → Int → Int → World → Prop) (D : Option Addr → Nat → Nat → World → Prop)
    (h4 : Calls Tryz.prog 4 #[.string s] w fun e w' => Below w.heap.size w w' ∧ ∃ b, e = .returned (.bool b) ∧ (b = true → A w'))
    (h6 : ∀ w', A w' → l ≤ 100 → Calls Tryz.prog 6 #[.string s, .slice p l c] w' fun e w2 => ∃ p' l' c', e = .returned (.slice p' l' c') ∧ B p' l' c' w2)
    (h7 : ∀ p' l' c' w2, B p' l' c' w2 → Calls Tryz.prog 7 #[.int .i64 n, .int .i64 (l' : Int)] w2 fun e w3 => ∃ a0 a1 a2 a3 a4 a5 a6 b, e = .returned (.tuple #[.agg #[.int .i64 a0, .int .i64 a1, .int .i64 a2, .int .i64 a3, .int .i64 a4, .int .i64 a5, .int .i64 a6], .bool b]) ∧ Below w.heap.size w w3 ∧ (b = true → C p' l' c' a0 a1 a2 a3 a4 a5 a6 w3))
    (h9 : ∀ p' l' c' a0 a1 a2 a3 a4 a5 a6 w3, C p' l' c' a0 a1 a2 a3 a4 a5 a6 w3 → Calls Tryz.prog 9 #[.agg #[.int .i64 a0, .int .i64 a1, .int .i64 a2, .int .i64 a3, .int .i64 a4, .int .i64 a5, .int .i64 a6], .slice p' l' c'] (w3.alloc (.cells #[.int .i64 a0, .int .i64 a1, .int .i64 a2, .int .i64 a3, .int .i64 a4, .int .i64 a5, .int .i64 a6] 27)) fun e w4 =>
      ∃ p'' l'' c'', e = .returned (.slice p'' l'' c'') ∧ D p'' l'' c'' w4)
    (h8 : ∀ p'' l'' c'' w4, D p'' l'' c'' w4 → Calls Tryz.prog 8 #[.slice p'' l'' c''] w4 fun e w5 => e = .returned (.tuple #[.string s, .bool true]) ∧ Below w.heap.size w w5) :
    Calls Tryz.prog 3 #[.string s, .slice p l c, .int .i64 n] w fun e w' => e = .returned (.bool true) ∧ Below w.heap.size w w' := by
  by_cases c1 : (2147483647 : Int) < (s.size : Int)
  · go_enter Tryz.func3, Tryz.ntmps3
    go_wp2
    go_ret
    exact ⟨rfl, Below.refl _ _⟩
  · by_cases c2 : (2147483647 : Int) < (l : Int)
    · go_enter Tryz.func3, Tryz.ntmps3
      go_wp2
      go_ret
      exact ⟨rfl, Below.refl _ _⟩
    · by_cases c3 : (100 : Int) < (l : Int)
      · go_enter Tryz.func3, Tryz.ntmps3
        go_wp2_with (go_at_call 4; refine h4.mono ?_; rintro e w' ⟨hb, b, rfl, ha⟩; cases b)
        all_goals (refine (works_walk _).mono ?_; rintro e w2 ⟨rfl, hb2⟩; go_wp2; go_ret; exact ⟨rfl, hb.trans (hb2.mono hb.size)⟩)
      · have hl : l ≤ 100 := by omega
        go_enter Tryz.func3, Tryz.ntmps3
        go_wp2_with (go_at_call 4; refine h4.mono ?_; rintro e w' ⟨hb, b, rfl, ha⟩; cases b)
        · refine (works_walk _).mono ?_
          rintro e w2 ⟨rfl, hb2⟩
          go_wp2
          go_ret
          exact ⟨rfl, hb.trans (hb2.mono hb.size)⟩
        · refine (h6 w' (ha trivial) hl).mono ?_
          rintro e w2 ⟨p', l', c', rfl, hB⟩
          go_wp2_with (go_at_call 7; refine (h7 p' l' c' w2 hB).mono ?_; rintro e w3 ⟨a0, a1, a2, a3, a4, a5, a6, b, rfl, hb3, hC⟩; cases b)
          · refine (works_walk _).mono ?_
            rintro e w4 ⟨rfl, hb4⟩
            go_wp2
            go_ret
            exact ⟨rfl, (hb3.alloc hb3.size _).trans (hb4.mono (by rw [alloc_size]; have := hb3.size; omega))⟩
          · refine (h9 p' l' c' a0 a1 a2 a3 a4 a5 a6 w3 (hC trivial)).mono ?_
            rintro e w4 ⟨p'', l'', c'', rfl, hD⟩
            go_wp2_with (go_at_call 8; refine (h8 p'' l'' c'' w4 hD).mono ?_; rintro e w5 ⟨rfl, hb5⟩)
            refine (works_walk _).mono ?_
            rintro e w6 ⟨rfl, hb6⟩
            go_wp2
            go_ret
            exact ⟨rfl, hb5.trans (hb6.mono hb5.size)⟩
end Go.Proofs.YtcnallabiffemaaGreatDoor.Vm
