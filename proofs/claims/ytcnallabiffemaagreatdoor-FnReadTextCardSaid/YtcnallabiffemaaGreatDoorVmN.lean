/- The one function whose statement the abstract machine does not carry out by itself: walked, and its word is sound; so the program is good for the abstract machine. Conditions: none. -/
import Derived.Test.YtcnallabiffemaaGreatDoorProg
import Derived.Test.YtcnallabiffemaaGreatDoorVmL
import Derived.WalkKit
import Derived.Deep.RegionWith
import Derived.Deep.Draws
import Derived.KernelRfl
import Derived.MapKept
namespace Go.Proofs.YtcnallabiffemaaGreatDoor.Vm
open Go Go.RowKit

/-- What the callee leaves. -/
def Left46 (K : Addr → World → Prop) (e : Ending) (w' : World) : Prop := ∃ q, e = .returned (.tuple #[.pointer (some q), .nilIface]) ∧ K q w'
def Left127 (B : Nat) (K : Addr → World → Prop) (e : Ending) (w' : World) : Prop := ∃ q w2, e = .returned .nilIface ∧ K q w2 ∧ w' = w2.setCell ⟨B, 7, none⟩ (.pointer (some q))
set_option maxHeartbeats 8000000 in
theorem walk127 (B : Nat) (len : Int) (v1 v2 v3 : Value) (w : World) (h1 : w.cell? ⟨B, 1, none⟩ = some v1) (h2 : w.cell? ⟨B, 2, none⟩ = some v2) (h3 : w.cell? ⟨B, 3, none⟩ = some v3) (h7 : w.cell? ⟨B, 7, none⟩ = some (.pointer none))
    (K : Addr → World → Prop) (h46 : ∀ m, Calls Tryz.prog 46 #[.int .i64 len, v1, v2, v3, .bool true] (w.drewN m) (Left46 K))
    (hK : ∀ q w', K q w' → (∃ u, w'.cell? ⟨B, 7, none⟩ = some u) ∧ w'.frozen? ⟨B, 7, none⟩ = false) :
    Calls Tryz.prog 127 #[.pointer (some ⟨B, 0, none⟩), .int .i64 len] w (Left127 B K) := by
  have h46' : Calls Tryz.prog 46 #[.int .i64 len, v1, v2, v3, .bool true] w.drew (Left46 K) := h46 1
  clear h46
  go_enter Tryz.func127, Tryz.ntmps127
  go_wp2
  go_region_with (go_at_call 46; refine h46'.mono ?_; rintro e w' ⟨q, rfl, hq⟩; obtain ⟨⟨u, hu⟩, hf⟩ := hK q w' hq)
  all_goals go_wp2
  all_goals go_ret
  all_goals exact ⟨_, _, rfl, by assumption, rfl⟩
end Go.Proofs.YtcnallabiffemaaGreatDoor.Vm
namespace Go.Proofs.YtcnallabiffemaaGreatDoor.Vm
open Go Go.RowKit

theorem onL2_some {l : AV} {k : AV → AV → R} {r : AV × AH} (h : onL2 l k = some r) : ∃ x y, l = .c x (.c y .e) ∧ k x y = some r := by
  rcases onL_some h with ⟨_, h1⟩ | ⟨x, m, rfl, h1⟩
  · cases h1
  · rcases onL_some h1 with ⟨_, h2⟩ | ⟨y, m', rfl, h2⟩
    · cases h2
    · rcases onL_some h2 with ⟨rfl, h3⟩ | ⟨_, _, _, h3⟩
      · exact ⟨x, y, rfl, h3⟩
      · cases h3
theorem o127_word (call : AV → AH → (AV → AH → R) → R) (hcall : CallWord Tryz.prog false 46 call) : CallWord Tryz.prog false 127 (o127 call) := by
  intro l h k r h1 ρ base w hh hl
  obtain ⟨p, nn, rfl, h1⟩ := onL2_some h1
  obtain ⟨c, off, rfl, h1⟩ := onP_some h1
  obtain ⟨ho, h1⟩ := when_some h1
  obtain ⟨kd, len, rfl, h1⟩ := onI_some h1
  obtain ⟨hkd, h1⟩ := when_some h1
  obtain ⟨o, hc, h1⟩ := opt_some h1
  obtain ⟨e, size, cs, rfl, h1⟩ := onCells_some h1
  obtain ⟨he, h1⟩ := when_some h1
  obtain ⟨hsz, h1⟩ := when_some h1
  obtain ⟨sh, hsh, h1⟩ := opt_some h1
  obtain ⟨mn, hmn, h1⟩ := opt_some h1
  obtain ⟨mx, hmx, h1⟩ := opt_some h1
  obtain ⟨si, hsi, h1⟩ := opt_some h1
  obtain ⟨rfl, h1⟩ := onNp_some h1
  obtain ⟨_, h1⟩ := when_some h1
  obtain ⟨_, h1⟩ := when_some h1
  obtain ⟨_, hcl⟩ := when_some h1
  clear h1
  obtain rfl : off = 0 := Nat.eq_of_beq_eq_true ho
  obtain rfl : e = 139 := Nat.eq_of_beq_eq_true he
  obtain rfl : size = 9 := Nat.eq_of_beq_eq_true hsz
  obtain rfl : kd = .i64 := kn_inj (b := .i64) hkd
  refine ⟨⟨_, _, Tryz.func127, by kernel_rfl, rfl⟩, ?_⟩
  obtain ⟨c0, hc1, hc2, hc3⟩ := hh.obj c _ hc
  have hlt := hh.lt c _ hc
  have cell : ∀ j v, j < 9 → T.get cs j = some v → ok h.next v ∧ w.cell? ⟨ρ.σ c, j, none⟩ = some (conc ρ v) := fun j v hj hv => by
    obtain ⟨a1, _, a3⟩ := hc3 j hj v hv
    exact ⟨a1, by simp [World.cell?, hc1, a3]⟩
  obtain ⟨o1, c1⟩ := cell 1 sh (by omega) hsh
  obtain ⟨o2, c2⟩ := cell 2 mn (by omega) hmn
  obtain ⟨o3, c3⟩ := cell 3 mx (by omega) hmx
  obtain ⟨_, c7⟩ := cell 7 .np (by omega) hsi
  let K : Addr → World → Prop := fun q w' => ∃ h' ρ' si so cs' cs'' ob, T.get h'.objs c = some (.cells 139 9 cs') ∧ (∀ j, T.get cs'' j = if j = 7 then some (.p si so) else T.get cs' j) ∧
    (∀ j, T.get ob j = if j = c then some (.cells 139 9 cs'') else T.get h'.objs j) ∧ k .ni ⟨ob, h'.next⟩ = some r ∧ si < h'.next ∧ Went false base ρ h w ρ' h' w' ∧ q = ⟨ρ'.σ si, so, none⟩
  have hblk : ∀ q w', K q w' → ∃ cc, w'.heap[ρ.σ c]? = some (.cells cc 139 (0, 0)) ∧ cc.size = 9 := by
    rintro q w' ⟨h', ρ', si, so, cs', cs'', ob, g1, g2, g3, g4, g5, g6, g7⟩
    obtain ⟨cc, b1, b2, _⟩ := g6.2.2.1.obj c _ g1
    rw [(g6.1 c hlt).1] at b1
    exact ⟨cc, b1, b2⟩
  refine Calls.mono (walk127 (ρ.σ c) len (conc ρ sh) (conc ρ mn) (conc ρ mx) w c1 c2 c3 c7 K ?_ ?_) ?_
  · intro m
    refine Calls.mono (hcall _ h _ r hcl ρ base (w.drewN m) (hh.heap rfl) ⟨trivial, o1, o2, o3, trivial, trivial⟩).2 fun e w' hcame => ?_
    obtain ⟨v, h', ρ', g1, rfl, g2, g3⟩ := hcame
    obtain ⟨l, rfl, g1⟩ := onTu_some g1
    obtain ⟨q, er, rfl, g1⟩ := onL2_some g1
    obtain ⟨si, so, rfl, g1⟩ := onP_some g1
    obtain ⟨rfl, g1⟩ := onNi_some g1
    obtain ⟨o, g4, g1⟩ := opt_some g1
    obtain ⟨e, size, cs', rfl, g1⟩ := onCells_some g1
    obtain ⟨he, g1⟩ := when_some g1
    obtain ⟨hsz, g1⟩ := when_some g1
    obtain rfl : e = 139 := Nat.eq_of_beq_eq_true he
    obtain rfl : size = 9 := Nat.eq_of_beq_eq_true hsz
    obtain ⟨cs'', g8, g5⟩ := setK_some g1
    obtain ⟨ob, g9, g6⟩ := setK_some g8
    exact ⟨⟨ρ'.σ si, so, none⟩, by simp [conc, concL], h', ρ', si, so, cs', cs'', ob, g4, g5, g6, g9, g2.1, (went_drewN hh m).trans g3, rfl⟩
  · intro q w' hq
    obtain ⟨cc, b1, b2⟩ := hblk q w' hq
    exact ⟨⟨cc[7]'(by omega), by simp [World.cell?, b1, b2]⟩, by simp [World.frozen?, b1]⟩
  · rintro e w' ⟨q, w2, rfl, hq, rfl⟩
    obtain ⟨cc, b1, b2⟩ := hblk q w2 hq
    obtain ⟨h', ρ', si, so, cs', cs'', ob, g1, g2, g3, g4, g5, g6, rfl⟩ := hq
    have hs : (ρ'.σ c) = ρ.σ c := (g6.1 c hlt).1
    have hlt' := g6.2.2.1.lt c _ g1
    have hoth : ∀ b, b ≠ ρ'.σ c → (w2.setCell ⟨ρ.σ c, 7, none⟩ (.pointer (some ⟨ρ'.σ si, so, none⟩))).heap[b]? = w2.heap[b]? := fun b hb => Below.heap_setCell _ _ _ _ (by rw [← hs]; exact hb)
    have hsz : (w2.setCell ⟨ρ.σ c, 7, none⟩ (.pointer (some ⟨ρ'.σ si, so, none⟩))).heap.size = w2.heap.size := by simp [World.setCell]
    have hbase := g6.2.2.1.own c _ g1 rfl
    refine ⟨.ni, ⟨ob, h'.next⟩, ρ', g4, rfl, trivial, g6.1, g6.2.1, g6.2.2.1.upd (o := .cells 139 9 cs') g1 (by simp) rfl hsz hoth g3 ?_, g6.2.2.2.1.trans (below_block rfl rfl rfl hsz hbase hoth), fun e => by cases e⟩
    obtain ⟨cc', d1, d2, d3⟩ := g6.2.2.1.obj c _ g1
    rw [hs] at d1
    obtain rfl : cc' = cc := by rw [d1] at b1; cases b1; rfl
    refine ⟨cc'.setIfInBounds 7 (.pointer (some ⟨ρ'.σ si, so, none⟩)), ?_, by simpa using d2, fun j hj x hx => ?_⟩
    · rw [hs, setCell_eq_setRow w2 _ _ _ _ _ _ b1]; exact setRow_heap _ _ _ _ _ _ b1
    · rw [g2] at hx
      by_cases ej : j = 7
      · rw [if_pos ej] at hx
        cases hx
        subst ej
        exact ⟨g5, rfl, by simp [d2, conc]⟩
      · rw [if_neg ej] at hx
        obtain ⟨a1, a2, a3⟩ := d3 j hj x hx
        exact ⟨a1, a2, by rw [Array.getElem?_setIfInBounds_ne (fun e => ej e.symm)]; exact a3⟩
theorem walk41 (B : Nat) (n : Int) (clock : Nat) (w : World) (hB : w.heap[B]? = some (.map #[] clock)) : Calls Tryz.prog 41 #[.map (some B), .int .i64 n] w fun e w' => e = .returned (.bool false) ∧ ∃ o, w' = w.alloc o := by
  have hk : Tryz.prog.underlying 69 = some (.map 3 123) := Tryz.underlying69
  have hz : (zeroValue 123).run Tryz.prog w = .ok (.agg #[]) w := by kernel_rfl
  have hl : (Instr.lookup 69 (.map (some B)) (.int .i64 n) true).run Tryz.prog w = .ok (.tuple #[.agg #[], .bool false]) w := by
    simp only [Instr.lookup, Sem.run_bind, run_underlying hk, Result.andThen_ok, MapKept.run_getObj_map hB, MapKept.run_checkKey (w := w) Tryz.underlying3 (show MapKept.IsKey (.int .i64) (.int .i64 n) by simp [MapKept.IsKey]) _ 9999,
      MapKept.run_findKey (w := w) (l := []) Tryz.underlying3 rfl, hz, Sem.run_pure]
    rfl
  go_enter Tryz.func41, Tryz.ntmps41
  go_wp2
  go_ret
  exact ⟨rfl, _, rfl⟩
/-- More memory behind what there was. -/
theorem HR.more {ρ : Env} {base : Nat} {h : AH} {w w' : World} (hh : HR ρ base h w) (hsz : w.heap.size ≤ w'.heap.size) (hk : ∀ b, b < w.heap.size → w'.heap[b]? = w.heap[b]?) : HR ρ base h w' :=
  ⟨Nat.le_trans hh.room hsz, hh.lt, hh.own, fun i hi => Nat.lt_of_lt_of_le (hh.base i hi) hsz, fun i o ho => (hh.obj i o ho).heap (hk _ (hh.base i (hh.lt i o ho))), hh.inj⟩
theorem o41_word : CallWord Tryz.prog false 41 o41 := by
  intro l h k r h1 ρ base w hh hl
  obtain ⟨m, nn, rfl, h1⟩ := onL2_some h1
  obtain ⟨id, rfl, h1⟩ := onM_some h1
  obtain ⟨kd, n, rfl, h1⟩ := onI_some h1
  obtain ⟨hkd, h1⟩ := when_some h1
  obtain ⟨o, ho, h1⟩ := opt_some h1
  obtain ⟨es, rfl, h9⟩ := onMap_some h1
  obtain rfl : kd = .i64 := kn_inj (b := .i64) hkd
  rcases onL_some (show onL es (k (.b false) h) (fun _ _ => none) = some r from h9) with ⟨rfl, h2⟩ | ⟨_, _, _, h2⟩
  · refine ⟨⟨_, _, Tryz.func41, by kernel_rfl, rfl⟩, ?_⟩
    obtain ⟨es', clock, g1, g2⟩ := hh.obj id _ ho
    have g3 : es' = #[] := Array.ext' g2
    subst g3
    refine Calls.mono (walk41 (ρ.σ id) n clock w g1) fun e w' he => ?_
    obtain ⟨rfl, o, rfl⟩ := he
    have hal : ∀ b, b < w.heap.size → (w.alloc o).heap[b]? = w.heap[b]? := fun b hb => Below.heap_alloc _ _ _ hb
    exact ⟨.b false, h, ρ, h2, rfl, trivial, Ext.refl _ _, Nat.le_refl _, hh.more (by show _ ≤ (w.heap.push o).size; simp) hal, ⟨rfl, rfl, rfl, by show _ ≤ (w.heap.push o).size; simp, fun b hb => hal b (Nat.lt_of_lt_of_le hb hh.room)⟩, fun e => by cases e⟩
  · cases h2
theorem good : Good Tryz.prog := ⟨by kernel_rfl, o41_word, o127_word⟩
end Go.Proofs.YtcnallabiffemaaGreatDoor.Vm
