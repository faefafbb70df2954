/- The statement's walk, joined: for every text, every row of choices that lies in the memory, and every number it says true. Conditions: none. -/
import Derived.Test.YtcnallabiffemaaGreatDoorVmZb
namespace Go.Proofs.YtcnallabiffemaaGreatDoor.Vm
open Go Go.RowKit
theorem cs_inj {s t : ByteArray} (h : cs s = cs t) : s = t := by
  have h1 : s.data.toList = t.data.toList := List.map_inj_right (fun a b e => UInt8.toNat_inj.1 e) |>.1 h
  have h2 : s.data = t.data := Array.ext' h1
  cases s; cases t
  simpa using h2
theorem cs_all {s : ByteArray} {b : Nat} (h : ∀ j, j < s.size → bt s j < b) : ∀ x ∈ cs s, x < b := by
  intro x hx
  obtain ⟨j, hj, rfl⟩ := List.mem_iff_getElem.1 hx
  have := h j (by rw [← cs_len]; exact hj)
  unfold bt at this
  rw [List.getD_eq_getElem?_getD, List.getElem?_eq_getElem hj] at this
  exact this
theorem seven {l : List Nat} (h : l.length = 7) : ∃ a b c d e f g, l = [a, b, c, d, e, f, g] := by
  match l, h with
  | [a, b, c, d, e, f, g], _ => exact ⟨a, b, c, d, e, f, g, rfl⟩
theorem main (s : ByteArray) (p : Option Addr) (l c : Nat) (n : Int) (W : World) (zs : List Int) (n0 : -9223372036854775808 ≤ n) (n1 : n < 9223372036854775808) (hl : zs.length = l)
    (hch : ∃ ρ h u, Vm.conc ρ u = .slice p l c ∧ HR ρ W.heap.size h W ∧ ok h.next u ∧ RoS h.next h u zs) :
    Calls Tryz.prog 3 #[.string s, .slice p l c, .int .i64 n] W fun e w' => e = .returned (.bool true) ∧ Below W.heap.size W w' := by
  obtain ⟨ρ, h, u, hu, hh, hok, hro⟩ := hch
  refine walk3 s p l c n W
    (fun w' => ∃ ρ', HR ρ' W.heap.size h w' ∧ Ext ρ h.next ρ' ∧ Below W.heap.size W w' ∧ 0 < s.size ∧ s.size ≤ 1000 ∧ ∀ j, j < s.size → bt s j < 128)
    (fun p' l' c' w' => ∃ ρ' h' v ws, HR ρ' W.heap.size h' w' ∧ Below W.heap.size W w' ∧ Vm.conc ρ' v = .slice p' l' c' ∧ l' = ws.length ∧ Sl .i64 3 h' v ws ∧ Chunks 0 (cs s) ws ∧ ws.length ≤ 6000 ∧ 0 < s.size ∧ s.size ≤ 1000 ∧ ∀ j, j < s.size → bt s j < 128)
    (fun p' l' c' a0 a1 a2 a3 a4 a5 a6 w' => ∃ ρ' h' v ws b0 b1 b2 b3 b4 b5 b6, HR ρ' W.heap.size h' w' ∧ Below W.heap.size W w' ∧ Vm.conc ρ' v = .slice p' l' c' ∧ Sl .i64 3 h' v ws ∧ Chunks 0 (cs s) ws ∧ 0 < s.size ∧ s.size ≤ 1000 ∧ (∀ j, j < s.size → bt s j < 128) ∧
      a0 = ((b0 : Nat) : Int) ∧ a1 = ((b1 : Nat) : Int) ∧ a2 = ((b2 : Nat) : Int) ∧ a3 = ((b3 : Nat) : Int) ∧ a4 = ((b4 : Nat) : Int) ∧ a5 = ((b5 : Nat) : Int) ∧ a6 = ((b6 : Nat) : Int) ∧ ws.length + 3 ≤ b4 ∧ b4 < 2000)
    (fun p' l' c' w' => ∃ ρ' h' v V, HR ρ' W.heap.size h' w' ∧ Below W.heap.size W w' ∧ Vm.conc ρ' v = .slice p' l' c' ∧ Sl .i64 3 h' v V ∧ V.length < 4000 ∧ (∀ x ∈ V, x < 256) ∧ Tok' 0 V (cs s) ∧ 0 < s.size ∧ s.size ≤ 1000 ∧ ∀ j, j < s.size → bt s j < 128)
    ?_ ?_ ?_ ?_ ?_
  · refine Calls.mono (calls_of_runs (m := 60000) (l := .c (.s s) .e) (f4 (by omega)) rfl rfl hh ⟨trivial, trivial⟩) ?_
    rintro e w' ⟨ρ', _, h', ⟨b, rfl, rfl, hb⟩, rfl, _, g1, g2, g3⟩
    exact ⟨g3, b, rfl, fun e => ⟨ρ', g2, g1, g3, hb e⟩⟩
  · rintro w' ⟨ρ', g2, g1, g3, t0, t1, t2⟩ hl100
    have ea : (concL ρ' (.c (.s s) (.c u .e))).toArray = #[.string s, .slice p l c] := by
      show #[Value.string s, Vm.conc ρ' u] = _
      rw [(conc_ext g1 u hok).1, hu]
    have := calls_of_runs (m := 70000) (l := .c (.s s) (.c u .e)) (f6 (by omega) t1 hro (by omega)) rfl rfl g2 ⟨trivial, hok, trivial⟩
    rw [ea] at this
    refine Calls.mono this ?_
    rintro e w2 ⟨ρ2, v, h2, ⟨ws, q1, q2, q3, q4⟩, rfl, _, k1, k2, k3⟩
    obtain ⟨p', c', ec⟩ := q1.sl.conc ρ2
    exact ⟨p', ws.length, c', congrArg Ending.returned ec, ρ2, h2, v, ws, k2, g3.trans k3, ec, rfl, q1.sl, q3, q4, t0, t1, t2⟩
  · rintro p' l' c' w2 ⟨ρ2, h2, v, ws, k2, k3, ec, rfl, sl, hc, hwl, t0, t1, t2⟩
    refine Calls.mono (calls_of_runs (m := 70000) (l := .c (.i .i64 n) (.c (.i .i64 (ws.length : Int)) .e)) (f7 (by omega) n0 n1 (by omega)) rfl rfl k2 ⟨trivial, trivial, trivial⟩) ?_
    rintro e w3 ⟨ρ3, v3, h3, ⟨sm, hv3⟩, rfl, _, m1, m2, m3⟩
    rcases hv3 with rfl | ⟨r, rfl, r7, r1, r2⟩
    · exact ⟨0, 0, 0, 0, 0, 0, 0, false, rfl, k3.trans m3, fun e => by cases e⟩
    · obtain ⟨b0, b1, b2, b3, b4, b5, b6, rfl⟩ := seven r7
      refine ⟨b0, b1, b2, b3, b4, b5, b6, true, rfl, k3.trans m3, fun _ => ⟨ρ3, h3, v, ws, b0, b1, b2, b3, b4, b5, b6, m2, k3.trans m3, ?_, sl.keep sm.next fun j hj => sm.get j (sl.lt hj), hc, t0, t1, t2, rfl, rfl, rfl, rfl, rfl, rfl, rfl, r1, r2⟩⟩
      rw [(conc_ext m1 v sl.ok).1, ec]
  · rintro p' l' c' a0 a1 a2 a3 a4 a5 a6 w3 ⟨ρ3, h3, v, ws, b0, b1, b2, b3, b4, b5, b6, k1, k2, ec, sl, hc, t0, t1, t2, rfl, rfl, rfl, rfl, rfl, rfl, rfl, d1, d2⟩
    have hcl : (cs s).length = s.size := cs_len s
    have hne : cs s ≠ [] := fun e => by rw [e] at hcl; simp at hcl; omega
    have k1' := k1.alloc (.cells #[.int .i64 (b0 : Int), .int .i64 (b1 : Int), .int .i64 (b2 : Int), .int .i64 (b3 : Int), .int .i64 (b4 : Int), .int .i64 (b5 : Int), .int .i64 (b6 : Int)] 27)
    have k2' := k2.alloc k2.size (.cells #[.int .i64 (b0 : Int), .int .i64 (b1 : Int), .int .i64 (b2 : Int), .int .i64 (b3 : Int), .int .i64 (b4 : Int), .int .i64 (b5 : Int), .int .i64 (b6 : Int)] 27)
    have ea : (concL ρ3 (.c (.ag (numL .i64 [b0, b1, b2, b3, b4, b5, b6])) (.c v .e))).toArray = #[.agg #[.int .i64 (b0 : Int), .int .i64 (b1 : Int), .int .i64 (b2 : Int), .int .i64 (b3 : Int), .int .i64 (b4 : Int), .int .i64 (b5 : Int), .int .i64 (b6 : Int)], .slice p' l' c'] := by
      show #[_, Vm.conc ρ3 v] = _
      rw [ec]
      rfl
    have := calls_of_runs (m := 70000) (l := .c (.ag (numL .i64 [b0, b1, b2, b3, b4, b5, b6])) (.c v .e)) (f9 (r := [b0, b1, b2, b3, b4, b5, b6]) (by omega) rfl (show b4 < 3000 by omega) sl (chunksNe hc hne) (show ws.length < b4 by omega)) rfl rfl k1' ⟨⟨trivial, trivial, trivial, trivial, trivial, trivial, trivial, trivial⟩, sl.ok, trivial⟩
    rw [ea] at this
    refine Calls.mono this ?_
    rintro e w4 ⟨ρ4, v4, h4, ⟨rest, q1, q2, q3, q4⟩, rfl, _, m1, m2, m3⟩
    have hlen : (ws ++ 129 :: rest).length = b4 := q3
    obtain ⟨p'', c'', ec4⟩ := q1.sl.conc ρ4
    have hlen2 := hlen
    rw [List.length_append, List.length_cons] at hlen2
    have hall := cs_all t2
    refine ⟨p'', _, c'', congrArg Ending.returned ec4, ρ4, h4, v4, _, m2, k2'.trans m3, ec4, q1.sl, by omega, fun x hx => ?_, tokAll hc hall (by omega), t0, t1, t2⟩
    rw [List.mem_append] at hx
    rcases hx with hx | hx
    · exact chunksLt hc hall x hx
    · rcases List.mem_cons.1 hx with rfl | hx
      · omega
      · exact q4 x hx
  · rintro p'' l'' c'' w4 ⟨ρ4, h4, v4, V, m2, k2, ec4, sl, v1, v2, v3, t0, t1, t2⟩
    have hcl : (cs s).length = s.size := cs_len s
    have hne : cs s ≠ [] := fun e => by rw [e] at hcl; simp at hcl; omega
    have hall := cs_all t2
    have := read8 m2 sl v1 v2 v3 (by omega) hne (fun x hx => by have := hall x hx; omega)
    rw [ec4] at this
    refine Calls.mono this ?_
    rintro e w5 ⟨s', rfl, es, hb⟩
    obtain rfl := cs_inj es
    exact ⟨rfl, k2.trans hb⟩
end Go.Proofs.YtcnallabiffemaaGreatDoor.Vm
