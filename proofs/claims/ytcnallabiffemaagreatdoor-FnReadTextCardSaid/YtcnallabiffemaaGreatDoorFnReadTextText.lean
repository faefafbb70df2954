/- The statement FnReadText of the given rows, and its tied card: for every text, every row of choices and every number the law answers true, and its arguments read behind the call as they read before. Conditions: the given row's own (five package-level tables begin as the program's text lays them); none beside. -/
import Derived.Test.YtcnallabiffemaaGreatDoorCards
import Derived.Test.YtcnallabiffemaaGreatDoorTie
import Derived.Test.YtcnallabiffemaaGreatDoorVmZc
import Derived.WalkKit
import Derived.ProofKit
import Derived.OpenShut
import Derived.Carry
import Derived.Deep.DeepHandedRow
import Derived.Deep.DeepWitnessRowRef
import Derived.Lib.LaidIn
namespace Go.Proofs.YtcnallabiffemaaGreatDoor.fnReadText
open Go Go.ChangeShapes Go.WideShapes Go.ChangeAt Go.RowKit
open Go.ChangeMaps (open_string shut_string)

theorem own : ownKnob Tryz.prog.godebug = none := by kernel_rfl
theorem laidOut : laidOutB Tryz.prog = true := by kernel_rfl
theorem cells3 : Tryz.prog.cellsOf 3 = 1 := by kernel_rfl

/-- A slice that is handed in lies in a block of the memory, at a plain address. -/
theorem slice_lies {P : Program} {t e : TypeId} (ht : P.underlying t = some (.slice e)) {W : World} {base : Nat} {a : Addr} {len cap : Nat} (h : Value.okWide P W .any base t (.slice (some a) len cap)) : a.spot = none ∧ a.block < W.heap.size := by
  simp only [Value.okWide, ht, Cell.okWide, Cell.ok] at h
  obtain ⟨_, _, _, hs, row, cells, hsh, _⟩ := h
  refine ⟨hs, ?_⟩
  unfold World.shape? at hsh
  by_cases hb : a.block < W.heap.size
  · exact hb
  · rw [Array.getElem?_eq_none (by omega)] at hsh
    cases hsh

theorem i64_bounds {n : Int} (h : (Lit.int .i64 n).wf = true) : -9223372036854775808 ≤ n ∧ n < 9223372036854775808 := by
  simp [Lit.wf, IntKind.min, IntKind.max, IntKind.bits, IntKind.signed] at h
  omega

set_option maxRecDepth 100000 in
/-- WHAT THE WALK GIVES, FOR EVERY ARGUMENT AND EVERY WORLD. -/
theorem contract (H : Type) (enc : TypeId × Value → H) (W : World) (base : Nat) (args : Array Value) (ds gs : List (DataW H)) (before : List MemPlace)
    (hval : ∀ (j : Nat) t v, Tryz.f3.params[j]? = some t → args[j]? = some v → Value.okWide Tryz.prog W .any base t v)
    (hW : DataW.Whole enc Tryz.prog Tryz.f3.params.toList Rows.fnReadTextSpec.vars false W args.toList ds gs before) :
    Calls Tryz.prog 3 args W fun e W' => ∃ v, e = .returned v ∧ Rows.fnReadTextSpec.post enc Tryz.prog Tryz.f3 false true false false W args v W' := by
  have hW' := hW
  obtain ⟨p, q, hA0, hV, rfl, hfz, hnd⟩ := hW
  have hA : DataW.TrodAll enc Tryz.prog W 0 (fun _ => true) true Tryz.f3.params.toList args.toList ds p := hA0
  rw [Tryz.params3] at hA hval
  obtain ⟨v0, v1, v2, d0, d1, d2, p0, p1, p2, rfl, rfl, rfl, h0, h1, h2⟩ := trodAll_three hA
  obtain ⟨rfl, rfl⟩ := trodVars_none hV
  obtain ⟨s, rfl, rfl, rfl, ws⟩ := open_string Tryz.underlying9 (hval 0 9 v0 rfl rfl) h0
  obtain ⟨n, rfl, rfl, rfl, wn⟩ := open_int Tryz.underlying3 (hval 2 3 v2 rfl rfl) h2
  clear hA0 hV
  have hv1 := hval 1 22 v1 rfl rfl
  have h1k := h1
  have hlt : ∀ x ∈ p1, x.block < W.heap.size := fun x hx => by simpa using hW'.lt x (by simp [hx])
  obtain ⟨n0, n1⟩ := i64_bounds wn
  have key : Calls Tryz.prog 3 #[.string s, v1, .int .i64 n] W fun e W' => e = .returned (.bool true) ∧ Below W.heap.size W W' := by
    obtain ⟨fuel, hf⟩ := h1
    rcases open_ints Tryz.underlying22 Tryz.underlying3 cells3 hf with ⟨hcs, _⟩ | ⟨a, len, cap, zs, hcs, _, hlc, _, hzl, _, hcell, hwf⟩
    · obtain ⟨a0, l0, c0, rfl⟩ := okWide_slice Tryz.underlying22 hv1
      simp only [Value.cells, List.cons.injEq, Value.slice.injEq, and_true] at hcs
      obtain ⟨rfl, rfl, rfl⟩ := hcs
      exact Vm.main s none 0 0 n W [] n0 n1 rfl (Vm.choicesNil W)
    · obtain ⟨a0, l0, c0, rfl⟩ := okWide_slice Tryz.underlying22 hv1
      simp only [Value.cells, List.cons.injEq, Value.slice.injEq, and_true] at hcs
      obtain ⟨rfl, rfl, rfl⟩ := hcs
      obtain ⟨hs, hb⟩ := slice_lies Tryz.underlying22 hv1
      obtain ⟨b, off, spot⟩ := a
      obtain rfl : spot = none := hs
      rw [if_pos rfl] at hzl
      have htl : (zs.take l0).length = l0 := by simp; omega
      refine Vm.main s _ l0 c0 n W (zs.take l0) n0 n1 htl (Vm.choicesSome W b off l0 c0 (zs.take l0) hb htl (fun z hz => i64_bounds (hwf z (List.mem_of_mem_take hz))) fun i hi => ?_)
      have := hcell i (by omega)
      rw [add_plain] at this
      rw [this]
      congr 2
      rw [List.getD_eq_getElem?_getD, List.getD_eq_getElem?_getD, List.getElem?_take_of_lt hi]
  refine key.mono fun e W' ⟨he, hb⟩ => ?_
  subst he
  refine ⟨_, rfl, _, _, _, [], p1, [], hW', ?_, ?_, ?_, hb.frame _, fun h => by cases h⟩
  · exact trodAll_cons_mk (shut_bool Tryz.underlying4 _) trodAll_mk0
  · rw [Tryz.params3]
    have := trodAll_mk3 (shut_string (enc := enc) (w := W') (base := 0) (sp := fun b => decide (b < W.heap.size)) (held := true) Tryz.underlying9 ws) (Below.trod laidOut (by kernel_rfl) (of_decide_eq_true (by kernel_rfl)) h1k hb hlt) (shut_int Tryz.underlying3 wn)
    rw [List.nil_append, List.append_nil] at this
    exact this
  · rfl

/-- The cells that a table's datum lays, in a row. -/
def part : DataW Unit → List Value
  | .lit (.int k n) => [.int k n]
  | .agg [.lit (.int k n), .lit (.int k' n')] => [.int k n, .int k' n']
  | _ => []
def laidCells : DataW Unit → Array Value
  | .agg l => (l.flatMap part).toArray
  | _ => #[]
def putIn (h : Array Obj) (g : Nat) (d : DataW Unit) : Array Obj := h.modify g fun
  | .cells _ t frozen => .cells (laidCells d) t frozen
  | o => o

/-- A WORLD FOR THE WITNESS: the settled one, the five tables (blocks 0 to 4) holding what their initialisers lay. -/
noncomputable def laidWorld (os : Os) : World :=
  let w0 := World.holding Tryz.prog os ⟨#[], #[], []⟩
  let h0 := putIn w0.heap 0 Rows.laid_unicode_utf8_first
  let h1 := putIn h0 1 Rows.laid_unicode_utf8_acceptRanges
  let h2 := putIn h1 2 Rows.laid_internal_strconv_uint64pow10
  let h3 := putIn h2 3 Rows.laid_math_bits_deBruijn32tab
  let h4 := putIn h3 4 Rows.laid_math_bits_deBruijn64tab
  { w0 with heap := h4 }
def wargs : Array Value := #[.string ⟨#[]⟩, .slice Option.none 0 0, .int .i64 0]
theorem laid_met (os : Os) : laidMet Tryz.prog Rows.fnReadTextRow.laid ((laidWorld os).forCall (fun _ _ => 0) ⟨#[], wargs, []⟩).memory :=
  (LaidIn.of_run [0, 1, 2, 3, 4] 8 (by kernel_rfl) (by kernel_rfl) (by kernel_rfl) (by kernel_rfl)).met

theorem witness_row (os : Os) {H : Type} (enc : TypeId × Value → H) :
    (OpenSpec.ofChange Rows.fnReadTextSpec).preRow enc Tryz.prog Tryz.f3 Rows.fnReadTextRow.domain false Rows.fnReadTextRow.laid ((laidWorld os).forCall (fun _ _ => 0) ⟨#[], wargs, []⟩).memory wargs := by
  have hw : (DataW.whole enc Tryz.prog ((laidWorld os).forCall (fun _ _ => 0) ⟨#[], wargs, []⟩).memory Tryz.f3.params.toList Rows.fnReadTextSpec.vars false wargs.toList 8).map (fun x => (x.1, x.2.1)) =
      some ([.lit (.string []), .nil, .lit (.int .i64 0)], []) := by kernel_rfl
  obtain ⟨⟨x1, x2, x3⟩, hx, hx1⟩ := Option.map_eq_some_iff.1 hw
  simp only [Prod.mk.injEq] at hx1
  obtain ⟨rfl, rfl⟩ := hx1
  exact OpenSpec.preRow_of_cond 8 hx (by kernel_rfl) (fun k hk => by cases hk) (by kernel_rfl) (laid_met os)

set_option maxRecDepth 100000 in
set_option maxHeartbeats 2000000 in
/-- THE STATEMENT's STEP. -/
theorem lifted (os : Os) (started : os.Started) (H : Type) (enc : TypeId × Value → H) (F : Stop.Interp) :
    ReturnsInHanded {} Tryz.checked os 3 .any ((OpenSpec.ofChange Rows.fnReadTextSpec).preRow enc Tryz.prog Tryz.f3 Rows.fnReadTextRow.domain false Rows.fnReadTextRow.laid) (((OpenSpec.ofChange Rows.fnReadTextSpec).at F).post enc Tryz.prog Tryz.f3 false true false false) := by
  refine returnsInHanded_of_row (C := Tryz.checked) (s := OpenSpec.ofChange Rows.fnReadTextSpec) own started (by kernel_rfl) Tryz.func3
    (witness_row_at (enc := enc) (C := Tryz.checked) false (laidWorld os) wargs rfl (by kernel_rfl) (by kernel_rfl) (by kernel_rfl) (witness_row os enc)) ?_
  intro W base args ds gs before hval hW _ _ _ _ _ _
  exact contract H enc W base args ds gs before hval hW

set_option maxRecDepth 100000 in
theorem said : Rows.FnReadTextSaid :=
  OpenClaim.holds_of_cond 3 Tryz.f3 rfl rfl rfl rfl rfl rfl rfl ⟨rfl, rfl, rfl, rfl, rfl⟩ rfl rfl rfl rfl rfl (by kernel_rfl) Tryz.func3 (by kernel_rfl)
    (of_decide_eq_true (by kernel_rfl)) (by unfold Func.isWrapper; first | (rw [if_pos (by decide +kernel)]; kernel_rfl) | (rw [if_neg (by decide +kernel)]; exact ⟨rfl, rfl⟩))
    (fun os started H enc _ F => by rw [OpenClaim.pre_eq_preRow]; exact lifted os started H enc F)

/-- No parameter wants a stand-in; the program's own looks are off: what the card asks. -/
theorem plain (f : FuncId) (fn : Func) (hf : Tryz.pinned.checked.prog.funcNamed "zxdatamatrix/laws.FnReadText" = some f) (hfn : Tryz.pinned.checked.prog.funcs[f]? = some fn) :
    false = Tryz.pinned.checked.prog.looks [] ∧ ∀ (j : Nat) t, fn.params[j]? = some t → Tryz.pinned.checked.prog.wantsStandIn t = false := by
  obtain rfl : f = 3 := Option.some.inj ((show Tryz.prog.funcNamed "zxdatamatrix/laws.FnReadText" = some 3 by kernel_rfl).symm.trans hf) |>.symm
  obtain rfl : fn = Tryz.f3 := (Option.some.inj (Tryz.func3.symm.trans hfn)).symm
  refine ⟨by kernel_rfl, fun j t ht => ?_⟩
  rw [Tryz.params3] at ht
  have hm : t = 9 ∨ t = 22 ∨ t = 3 := by simpa using Array.mem_of_getElem? ht
  rcases hm with rfl | rfl | rfl
  · exact (show Tryz.prog.wantsStandIn 9 = false by kernel_rfl)
  · exact (show Tryz.prog.wantsStandIn 22 = false by kernel_rfl)
  · exact (show Tryz.prog.wantsStandIn 3 = false by kernel_rfl)

/-- THE CARD. -/
theorem card : Rows.FnReadTextCardSaid :=
  Claim7.holds_tied_plain_at .later [] _ _ _ _ said (fun _ h => by cases h) (by kernel_rfl) (fun _ h => by cases h) fnReadText_row_tie rfl ⟨rfl, rfl⟩ (by kernel_rfl) rfl plain (by kernel_rfl)
end Go.Proofs.YtcnallabiffemaaGreatDoor.fnReadText
namespace Go.Proofs.YtcnallabiffemaaGreatDoor
theorem fnReadText_holds : Rows.FnReadTextCardSaid := fnReadText.card
end Go.Proofs.YtcnallabiffemaaGreatDoor
#print axioms Go.Proofs.YtcnallabiffemaaGreatDoor.fnReadText_holds
