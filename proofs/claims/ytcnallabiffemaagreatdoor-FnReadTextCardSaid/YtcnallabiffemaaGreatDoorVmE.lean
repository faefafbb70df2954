/- The abstract machine's operations that write nothing: each arm. Conditions: the frame and the heap stand for the real ones. -/
import Derived.Test.YtcnallabiffemaaGreatDoorVmD
import Derived.Laws.Tables
import Derived.DataReads
import Derived.Laws.DeepStrings4
import Derived.Laws.Small
import Derived.Laws.Cells
namespace Go.Proofs.YtcnallabiffemaaGreatDoor.Vm
open Go Go.RowKit

/-- An operation that yields a value in the very world that it got, whatever was drawn; if it is no load, in whatever world. -/
def Flat (P : Program) (ρ : Env) (n : Nat) (w : World) (a : Act) (o : Oper) (v : AV) : Prop := ok n v ∧ ∀ w' : World, (isLoad o = true → w'.heap = w.heap) → (execOp a.eval o).run P w' = .ok (.value (conc ρ v)) w'

theorem one_some {P : Program} {t : Nat} (h : one P t = true) : ∃ i d, P.info? t = some i ∧ P.underlying t = some d ∧ i.size = 1 ∧ (match d with | .struct _ | .array _ _ => true | _ => false) = false := by
  unfold one at h
  split at h <;> first | cases h | skip
  rename_i i d _ _ hi hd
  refine ⟨i, d, hi, hd, by simpa using h, ?_⟩
  cases d <;> simp_all
theorem elemOf_some {P : Program} {t e : Nat} (h : elemOf P t = some e) : P.underlying t = some (.slice e) := by
  unfold elemOf at h
  split at h
  · rename_i hu; cases h; exact hu
  · cases h
theorem isStr_some {P : Program} {t : Nat} (h : isStr P t = true) : P.underlying t = some .string := by
  unfold isStr at h
  split at h
  · assumption
  · cases h
theorem fieldOff_some {P : Program} {s f d : Nat} (h : fieldOff P s f = some d) : ∃ fs fd, P.underlying s = some (.struct fs) ∧ fs[f]? = some fd ∧ one P fd.type = true ∧ fd.offset = d := by
  unfold fieldOff at h
  split at h
  · rename_i fs hu
    split at h
    · rename_i fd hf
      split at h
      · rename_i ho; cases h; exact ⟨fs, fd, hu, hf, ho, rfl⟩
      · cases h
    · cases h
  · cases h
theorem intOf_some {P : Program} {s d : Nat} {k : IntKind} (h : Vm.intOf P s d = some k) : (∃ e, P.underlying s = some e) ∧ P.underlying d = some (.int k) := by
  unfold Vm.intOf at h
  split at h
  · rename_i e _ hs hd; cases h; exact ⟨⟨_, hs⟩, hd⟩
  · cases h
theorem noIface_some {P : Program} {t : Nat} (h : noIface P t = true) : ∃ d, P.underlying t = some d ∧ ∀ m, d ≠ .interface m := by
  unfold noIface at h
  split at h
  · cases h
  · rename_i d hn hu; exact ⟨_, hu, fun m e => hn m e⟩
  · cases h
theorem isSlice_some {P : Program} {t : Nat} (h : isSlice P t = true) : ∃ e, P.underlying t = some (.slice e) := by
  unfold isSlice at h
  split at h
  · exact ⟨_, by assumption⟩
  · cases h
theorem equalIn_sl {P : Program} (w : World) (d : Nat) {t e : TypeId} (he : P.underlying t = some (.slice e)) (s : Option Addr) (l c : Nat) : (Op.equalIn (d + 1) t (.slice s l c) (.slice none 0 0)).run P w = .ok s.isNone w := by
  cases s <;> simp [Op.equalIn, run_underlying he]
theorem isU8_some {P : Program} {t : Nat} (h : isU8 P t = true) : P.underlying t = some (.int .u8) := by
  unfold isU8 at h
  split at h
  · assumption
  · cases h
theorem structSize_some {P : Program} {t n : Nat} (h : structSize P t = some n) : ∃ fs i, P.underlying t = some (.struct fs) ∧ P.info? t = some i ∧ i.size = n := by
  unfold structSize at h
  split at h
  · rename_i fs hu
    cases hi : P.info? t with
    | none => simp [hi] at h
    | some i => simp [hi] at h; exact ⟨fs, i, hu, rfl, h⟩
  · cases h
theorem mapElem_some {P : Program} {t e : Nat} (h : mapElem P t = some e) : ∃ k, P.underlying t = some (.map k e) ∧ P.underlying k = some (.int .i64) := by
  unfold mapElem at h
  split at h
  · rename_i k e' hu
    split at h
    · rename_i hk; cases h; exact ⟨k, hu, hk⟩
    · cases h
  · cases h
theorem run_sizeOf1 {P : Program} {t : Nat} {i : TypeInfo} (hi : P.info? t = some i) (hs : i.size = 1) (w : World) : (sizeOf t).run P w = .ok 1 w := by simp [sizeOf, typeInfo, hi, hs]
theorem add_conc (b o n : Nat) : (⟨b, o, none⟩ : Addr).add n = ⟨b, o + n, none⟩ := by
  unfold Addr.add
  split
  · subst_vars; rfl
  · rfl
section
variable {P : Program} {ρ : Env} {n nt : Nat} {rg : T AV} {a : Act} {w : World} {k : AV → R} {r : AV × AH} {o : Oper} (hr : RR ρ n nt rg a)
include hr
theorem move_some {x : Operand} (h : oe rg x k = some r) (ho : o.op = .move x ∨ o.op = .assign x) : ∃ v, k v = some r ∧ Flat P ρ n w a o v := by
  obtain ⟨v, h1, h2, h3⟩ := oe_some h hr
  refine ⟨v, h1, h2, fun w' _ => ?_⟩
  rcases ho with ho | ho <;> simp [execOp, ho, h3]
theorem pPick_some {c x y : Operand} (h : pPick rg k c x y = some r) (ho : o.op = .pick c x y) : ∃ v, k v = some r ∧ Flat P ρ n w a o v := by
  obtain ⟨v, h1, h2, h3⟩ := oe_some h hr
  obtain ⟨t, rfl, h4⟩ := onB_some h1
  cases t with
  | true =>
    obtain ⟨u, h5, h6, h7⟩ := oe_some h4 hr
    exact ⟨u, h5, h6, fun w' _ => by simp [execOp, ho, h3, conc, asBool, h7]⟩
  | false =>
    obtain ⟨u, h5, h6, h7⟩ := oe_some h4 hr
    exact ⟨u, h5, h6, fun w' _ => by simp [execOp, ho, h3, conc, asBool, h7]⟩
theorem pNil_some {x : Operand} (h : pNil rg k x = some r) (ho : o.op = .nilCheck x) : ∃ v, k v = some r ∧ Flat P ρ n w a o v := by
  obtain ⟨v, h1, h2, h3⟩ := oe_some h hr
  obtain ⟨h4, h5⟩ := onNc_some h1
  refine ⟨v, h5, h2, fun w' _ => ?_⟩
  rcases h4 with ⟨_, _, rfl⟩ | ⟨_, _, rfl⟩ <;> simp [execOp, ho, h3, conc]
theorem pBin_some {op : BinOp} {xt yt : Nat} {x y : Operand} (h : pBin P rg k op xt x y = some r) (ho : o.op = .binOp op xt x y yt) : ∃ v, k v = some r ∧ Flat P ρ n w a o v := by
  obtain ⟨u, h1, h2, h3⟩ := oe_some h hr
  obtain ⟨v, h4, h5, h6⟩ := oe_some h1 hr
  cases hs : isSlice P xt with
  | false =>
    rw [hs] at h4
    obtain ⟨z, h7, h8, h9⟩ := bop_some h4
    refine ⟨z, h7, h8 n, fun w' _ => ?_⟩
    have := h9 ρ w' x y rfl
    simp only [execOp, ho, h3, h6]
    rw [Sem.run_bind, this]
    rfl
  | true =>
    rw [hs] at h4
    obtain ⟨e, he⟩ := isSlice_some hs
    have fin : ∀ (z : Bool), eqK op z k = some r → (∀ w' : World, (Op.equalIn 10000 xt (conc ρ u) (conc ρ v)).run P w' = .ok z w') → (∀ q, conc ρ u ≠ q → True) → (∃ s l c, conc ρ u = .slice s l c) → (∃ s l c, conc ρ v = .slice s l c) → ∃ v, k v = some r ∧ Flat P ρ n w a o v := by
      intro z hz hq _ hu hv
      obtain ⟨s1, l1, c1, hu⟩ := hu
      obtain ⟨s2, l2, c2, hv⟩ := hv
      rcases eqK_some hz with ⟨rfl, e1⟩ | ⟨rfl, e1⟩
      · refine ⟨_, e1, trivial, fun w' _ => ?_⟩
        have := run_eqs (P := P) (w := w') (op := .eql) (.inl rfl) (t := xt) (x := x) (y := y) (a := conc ρ u) (b := conc ρ v) (z := z) (guard_plain (.inl (by rw [hu]; simp)) (by rw [hu]; simp)) (by rw [hu, hv]; rfl) (by rw [hu, hv]; rfl) (hq w')
        simp only [execOp, ho, h3, h6]
        rw [Sem.run_bind, this]
        rfl
      · refine ⟨_, e1, trivial, fun w' _ => ?_⟩
        have := run_eqs (P := P) (w := w') (op := .neq) (.inr rfl) (t := xt) (x := x) (y := y) (a := conc ρ u) (b := conc ρ v) (z := z) (guard_plain (.inl (by rw [hu]; simp)) (by rw [hu]; simp)) (by rw [hu, hv]; rfl) (by rw [hu, hv]; rfl) (hq w')
        simp only [execOp, ho, h3, h6]
        rw [Sem.run_bind, this]
        rfl
    rcases onSl_some (show onSl v (fun _ _ _ _ => none) (fun _ _ => none) (onSl u (fun _ _ _ _ => eqK op false k) (fun _ _ => eqK op false k) (eqK op true k)) = some r from h4) with ⟨_, _, _, _, _, hh⟩ | ⟨_, _, _, hh⟩ | ⟨rfl, hh⟩
    · cases hh
    · cases hh
    · rcases onSl_some hh with ⟨_, _, _, _, rfl, h7⟩ | ⟨_, _, rfl, h7⟩ | ⟨rfl, h7⟩
      · exact fin false h7 (fun w' => equalIn_sl w' 9999 he _ _ _) (fun _ _ => trivial) ⟨_, _, _, rfl⟩ ⟨_, _, _, rfl⟩
      · exact fin false h7 (fun w' => equalIn_sl w' 9999 he _ _ _) (fun _ _ => trivial) ⟨_, _, _, rfl⟩ ⟨_, _, _, rfl⟩
      · exact fin true h7 (fun w' => equalIn_sl w' 9999 he _ _ _) (fun _ _ => trivial) ⟨_, _, _, rfl⟩ ⟨_, _, _, rfl⟩
theorem pIdx_some {t : Nat} {x ix : Operand} (h : pIdx P rg k t x ix = some r) (ho : o.op = .index t x ix) : ∃ v, k v = some r ∧ Flat P ρ n w a o v := by
  obtain ⟨h0, h⟩ := when_some h
  have hu := isStr_some h0
  obtain ⟨v, h1, _, h3⟩ := oe_some h hr
  obtain ⟨u, h4, _, h5⟩ := oe_some h1 hr
  obtain ⟨s, rfl, h6⟩ := onS_some h4
  obtain ⟨kk, m, rfl, h7⟩ := onI_some h6
  rcases nat2_some h7 with ⟨m, _, rfl, _, h8⟩ | h8
  · obtain ⟨b, h9, h10⟩ := opt_some h8
    have hlt : m < s.size := by
      rcases Nat.lt_or_ge m s.size with h | h
      · exact h
      · rw [ByteArray.getElem?_ge' s m (by omega)] at h9; cases h9
    rw [ByteArray.getElem?_lt' s m hlt] at h9
    cases h9
    refine ⟨_, (forceN_eq _ _).symm.trans h10, trivial, fun w' _ => ?_⟩
    simp only [execOp, ho, h3, h5, conc, Sem.run_bind]
    rw [run_index_string w' t s kk (Int.ofNat m) hu, dif_pos ⟨Int.natCast_nonneg m, Int.ofNat_lt.2 hlt⟩]
    rfl
  · cases h8
theorem pSub_some {t : Nat} {x : Operand} {lo hi : Option Operand} (h : pSub P rg k t x lo hi = some r) (ho : o.op = .slice t x lo hi none) : ∃ v, k v = some r ∧ Flat P ρ n w a o v := by
  obtain ⟨h0, h⟩ := when_some h
  have hu := isStr_some h0
  obtain ⟨v, h1, _, h3⟩ := oe_some h hr
  obtain ⟨s, rfl, h4⟩ := onS_some h1
  obtain ⟨lo, rfl, h5⟩ := opt_some h4
  obtain ⟨hi, rfl, h6⟩ := opt_some h5
  obtain ⟨vi, h7, _, h8⟩ := oe_some h6 hr
  obtain ⟨vj, h9, _, h10⟩ := oe_some h7 hr
  obtain ⟨ki, i, rfl, h11⟩ := onI_some h9
  obtain ⟨kj, j, rfl, h12⟩ := onI_some h11
  rcases nat2_some h12 with ⟨i, j, rfl, rfl, h13⟩ | h13
  · obtain ⟨h14, h15⟩ := when_some h13
    obtain ⟨h16, h17⟩ := when_some h15
    have hij : i ≤ j := Nat.le_of_ble_eq_true h14
    have hjs : j ≤ s.size := Nat.le_of_ble_eq_true h16
    refine ⟨_, h17, trivial, fun w' _ => ?_⟩
    simp only [execOp, ho, h3, h8, h10, conc, Sem.run_bind, Option.map_some, Option.map_none]
    have : (Instr.sliceAt t (.string s) (some (.int ki (Int.ofNat i))) (some (.int kj (Int.ofNat j))) none).run P w' = .ok (.string (s.extract i j)) w' := by
      have hsa : (Instr.sliceAt t (.string s) (some (.int ki (Int.ofNat i))) (some (.int kj (Int.ofNat j))) none).run P w' = (Instr.slice t (.string s) (some (.int ki (Int.ofNat i))) (some (.int kj (Int.ofNat j))) none).run P w' := by
        simp only [Instr.sliceAt, Sem.run_bind, run_underlying hu, Result.andThen_ok]
      rw [hsa]
      rw [run_slice_string_if w' t s ki kj (Int.ofNat i) (Int.ofNat j) hu, if_pos ⟨Int.natCast_nonneg j, Int.ofNat_le.2 hjs⟩, if_pos ⟨Int.natCast_nonneg i, Int.ofNat_le.2 hij⟩]
      rfl
    rw [this]
    rfl
  · cases h13
theorem pMin_some {x y : Operand} (h : pMin rg k x y = some r) {c : Call} (ho : o.op = .call c) (hc : c.callee = .builtin .min) (hx : c.args = #[x, y]) : ∃ v, k v = some r ∧ Flat P ρ n w a o v := by
  obtain ⟨v, h1, _, h3⟩ := oe_some h hr
  obtain ⟨u, h4, _, h5⟩ := oe_some h1 hr
  obtain ⟨ka, m, rfl, h6⟩ := onI_some h4
  obtain ⟨kb, m', rfl, h7⟩ := onI_some h6
  obtain ⟨h8, h9⟩ := when_some h7
  obtain rfl := kn_inj h8
  have start : ∀ w' : World, (execOp a.eval o).run P w' = .ok (.value (.int ka (if m' < m then m' else m))) w' := by
    intro w'
    have : (Builtin.min_ c.argTypes o.type (#[x, y].map a.eval)).run P w' = .ok (.int ka (if m' < m then m' else m)) w' := by
      rw [show #[x, y].map a.eval = #[.int ka m, .int ka m'] by simp [h3, h5, conc]]
      exact run_min_int2 ..
    simp only [execOp, ho, resolve, hc, invoke, hx, builtin, Sem.run_bind, Sem.run_pure, Result.andThen_ok, this]
  cases hb : iLt m' m with
  | false =>
    rw [hb] at h9
    have : ¬ m' < m := by rw [iLt_eq] at hb; simpa using hb
    exact ⟨_, h9, trivial, fun w' _ => by rw [start, if_neg this]; rfl⟩
  | true =>
    rw [hb] at h9
    have : m' < m := by rw [iLt_eq] at hb; simpa using hb
    exact ⟨_, h9, trivial, fun w' _ => by rw [start, if_pos this]; rfl⟩
theorem pNot_some {op : UnOp} {t : Nat} {x : Operand} (h : pNot rg k op x = some r) (ho : o.op = .unOp op t x) : ∃ v, k v = some r ∧ Flat P ρ n w a o v := by
  obtain ⟨h0, h⟩ := when_some h
  obtain ⟨v, h1, h2, h3⟩ := oe_some h hr
  obtain ⟨t, rfl, h4⟩ := onB_some h1
  have hop : op = .not := by cases op <;> first | rfl | cases h0
  subst hop
  exact ⟨_, (boolK_eq _ _).symm.trans h4, trivial, fun w' _ => by simp [execOp, ho, h3, conc, Op.unary]⟩
theorem pConv_some {s d : Nat} {x : Operand} (h : pConv P rg k s d x = some r) (ho : o.op = .convert s d x) : ∃ v, k v = some r ∧ Flat P ρ n w a o v := by
  obtain ⟨v, h1, h2, h3⟩ := oe_some h hr
  obtain ⟨kk, m, rfl, h4⟩ := onI_some h1
  obtain ⟨kd, h5, h6⟩ := opt_some h4
  obtain ⟨⟨e, he⟩, hd⟩ := intOf_some h5
  have h7 : k (.i kd (kd.wrap m)) = some r := by
    rcases nat2_some h6 with ⟨p, q, rfl, _, h7⟩ | h7
    · exact (wrapN_eq _ _ _).symm.trans h7
    · exact (slowK_eq _ _ _).symm.trans h7
  exact ⟨_, h7, trivial, fun w' _ => by simp [execOp, ho, h3, conc, convert, run_underlying he, run_underlying hd, Conv.intToInt]⟩
theorem pIface_some {t : Nat} {x : Operand} (h : pIface P rg k t x = some r) (ho : o.op = .makeInterface t x) : ∃ v, k v = some r ∧ Flat P ρ n w a o v := by
  obtain ⟨v, h1, h2, h3⟩ := oe_some h hr
  obtain ⟨h4, h5⟩ := when_some h1
  obtain ⟨d, hd, hn⟩ := noIface_some h4
  refine ⟨_, h5, h2, fun w' _ => ?_⟩
  cases d <;> first | exact absurd rfl (hn _) | simp [execOp, ho, h3, conc, Instr.makeInterface, run_underlying hd]
theorem pFunc_some {fn : Fn} {first caps : Array Operand} (h : pFunc rg k fn first caps = some r) (ho : o.op = .makeFunc fn first caps) : ∃ v, k v = some r ∧ Flat P ρ n w a o v := by
  obtain ⟨f, h1, h2⟩ := opt_some h
  obtain ⟨h3, h4⟩ := when_some h2
  obtain ⟨l, h5, h6, h7⟩ := oes_some hr _ _ _ h4
  have hf : fn = .func f := by cases fn <;> simp [fnOf] at h1; rw [h1]
  subst hf
  have h0 : first = #[] := by
    have := Nat.eq_of_beq_eq_true h3
    exact Array.eq_empty_of_size_eq_zero this
  subst h0
  exact ⟨_, h5, h6, fun w' _ => by
    simp only [execOp, ho, conc, Instr.makeFunc, h7, Sem.run_bind]
    rw [show (caps.map a.eval) = (caps.toList.map a.eval).toArray from Array.ext' (by simp)]
    simp⟩
theorem pField_some {s f : Nat} {x : Operand} (h : pField P rg k s x f = some r) (ho : o.op = .fieldAddr s x f) : ∃ v, k v = some r ∧ Flat P ρ n w a o v := by
  obtain ⟨v, h1, h2, h3⟩ := oe_some h hr
  obtain ⟨id, off, rfl, h4⟩ := onP_some h1
  obtain ⟨d, h5, h6⟩ := opt_some h4
  obtain ⟨fs, fd, hu, hf, h1', rfl⟩ := fieldOff_some h5
  obtain ⟨i, _, hi, _, hs, _⟩ := one_some h1'
  refine ⟨_, (forceN_eq _ _).symm.trans h6, h2, fun w' _ => ?_⟩
  simp [execOp, ho, h3, conc, Instr.fieldAt, run_underlying hu, hf, Instr.sureAddr, fieldPlace, run_sizeOf1 hi hs, add_conc]
theorem pIndex_some {t : Nat} {x ix : Operand} (h : pIndex P rg k t x ix = some r) (ho : o.op = .indexAddr t x ix) : ∃ v, k v = some r ∧ Flat P ρ n w a o v := by
  obtain ⟨e, h1, h2⟩ := opt_some h
  have hu := elemOf_some h1
  cases hone : one P e with
  | false =>
    rw [hone] at h2
    obtain ⟨sz, hsz, h4⟩ := opt_some h2
    obtain ⟨fs, i, hus, hi, hs⟩ := structSize_some hsz
    obtain ⟨v, h5, h6, h7⟩ := oe_some h4 hr
    obtain ⟨u, h8, _, h9⟩ := oe_some h5 hr
    obtain ⟨kk, m, rfl, h10⟩ := onI_some h8
    rcases nat2_some h10 with ⟨m, _, rfl, _, h11⟩ | h11
    · rcases onSl_some h11 with ⟨id, off, len, cap, rfl, h12⟩ | ⟨id, len, rfl, h12⟩ | ⟨_, h12⟩
      · obtain ⟨h13, h14⟩ := when_some h12
        have hlt : m < len := by simpa [Nat.blt_eq] using h13
        refine ⟨_, (forceN_eq _ _).symm.trans h14, h6, fun w' _ => ?_⟩
        simp [execOp, ho, h7, h9, conc, Instr.indexAt, run_underlying hu, asIntOf, sizeOf, typeInfo, hi, hs, add_conc, hlt]
      · cases h12
      · cases h12
    · cases h11
  | true =>
    rw [hone] at h2
    obtain ⟨i, _, hi, _, hs, _⟩ := one_some hone
    obtain ⟨v, h5, h6, h7⟩ := oe_some h2 hr
    obtain ⟨u, h8, _, h9⟩ := oe_some h5 hr
    obtain ⟨kk, m, rfl, h10⟩ := onI_some h8
    rcases nat2_some h10 with ⟨m, _, rfl, _, h11⟩ | h11
    · rcases onSl_some h11 with ⟨id, off, len, cap, rfl, h12⟩ | ⟨id, len, rfl, h12⟩ | ⟨_, h12⟩
      · obtain ⟨h13, h14⟩ := when_some h12
        have hlt : m < len := by simpa [Nat.blt_eq] using h13
        refine ⟨_, (forceN_eq _ _).symm.trans h14, h6, fun w' _ => ?_⟩
        simp [execOp, ho, h7, h9, conc, Instr.indexAt, run_underlying hu, asIntOf, run_sizeOf1 hi hs, add_conc, hlt]
      · obtain ⟨h13, h14⟩ := when_some h12
        have hlt : m < len := by simpa [Nat.blt_eq] using h13
        refine ⟨_, h14, h6, fun w' _ => ?_⟩
        simp [execOp, ho, h7, h9, conc, Instr.indexAt, run_underlying hu, asIntOf, run_sizeOf1 hi hs, add_conc, hlt]
      · cases h12
    · cases h11
omit hr in
theorem nth_some : ∀ (ix : Nat) (l : AV) (k : AV → R), nth k ix l = some r → ok n l → ∃ v, k v = some r ∧ ok n v ∧ (concL ρ l)[ix]? = some (conc ρ v) := by
  intro ix
  induction ix with
  | zero =>
    intro l k h hl
    rcases onL_some (show onL l none (fun x _ => k x) = some r from h) with ⟨_, h1⟩ | ⟨x, m, rfl, h1⟩
    · cases h1
    · exact ⟨x, h1, hl.1, by simp [concL]⟩
  | succ ix ih =>
    intro l k h hl
    rcases onL_some (show onL l none (fun _ l => nth k ix l) = some r from h) with ⟨_, h1⟩ | ⟨x, m, rfl, h1⟩
    · cases h1
    · obtain ⟨v, h2, h3, h4⟩ := ih m k h1 hl.2
      exact ⟨v, h2, h3, by simpa [concL] using h4⟩
theorem pExt_some {x : Operand} {ix : Nat} (h : pExt rg k x ix = some r) (ho : o.op = .extract x ix) : ∃ v, k v = some r ∧ Flat P ρ n w a o v := by
  obtain ⟨v, h1, h2, h3⟩ := oe_some h hr
  obtain ⟨l, rfl, h4⟩ := onTu_some h1
  obtain ⟨u, h5, h6, h7⟩ := nth_some (ρ := ρ) ix l k h4 h2
  exact ⟨u, h5, h6, fun w' _ => by simp [execOp, ho, h3, conc, Instr.extract, h7]⟩
theorem pLen_some {x : Operand} {t : Nat} (h : pLen P rg k x t = some r) {c : Call} (ho : o.op = .call c) (hc : c.callee = .builtin .len) (hx : c.args = #[x]) (ht : c.argTypes = #[t]) :
    ∃ v, k v = some r ∧ Flat P ρ n w a o v := by
  obtain ⟨v, h1, h2, h3⟩ := oe_some h hr
  have start : ∀ w' : World, (execOp a.eval o).run P w' = (builtin .len #[t] o.type (c.args.map fun | .const _ => true | _ => false) #[conc ρ v]).run P w' := by
    intro w'
    simp [execOp, ho, resolve, hc, invoke, ht, hx, h3]
    rfl
  rcases onLen_some h1 with ⟨s, rfl, h4⟩ | ⟨id, off, len, cap, rfl, h4⟩ | ⟨id, len, rfl, h4⟩ | ⟨rfl, h4⟩
  · obtain ⟨h5, h6⟩ := when_some h4
    have hu := isStr_some h5
    refine ⟨_, (forceN_eq _ _).symm.trans h6, trivial, fun w' _ => ?_⟩
    rw [start]
    simp [builtin, Builtin.len_, run_underlying hu, conc, goInt]
  · obtain ⟨e, h5, h6⟩ := opt_some h4
    have hu := elemOf_some h5
    refine ⟨_, h6, trivial, fun w' _ => ?_⟩
    rw [start]
    simp [builtin, Builtin.len_, run_underlying hu, conc, goInt]
  · obtain ⟨e, h5, h6⟩ := opt_some h4
    have hu := elemOf_some h5
    refine ⟨_, h6, trivial, fun w' _ => ?_⟩
    rw [start]
    simp [builtin, Builtin.len_, run_underlying hu, conc, goInt]
  · obtain ⟨e, h5, h6⟩ := opt_some h4
    have hu := elemOf_some h5
    refine ⟨_, h6, trivial, fun w' _ => ?_⟩
    rw [start]
    simp [builtin, Builtin.len_, run_underlying hu, conc, goInt]
omit hr in
theorem takeL_some {i : Nat} {o : AO} (ho : OR ρ n i w o) : ∀ (m off : Nat) (k : AV → R), takeL o m off k = some r →
    ∃ l, k l = some r ∧ ok n l ∧ (concL ρ l).length = m ∧ (∀ j u, (concL ρ l)[j]? = some u → w.cell? ⟨ρ.σ i, off + j, none⟩ = some u) ∧ ∀ u ∈ concL ρ l, u.oneCell' = true := by
  intro m
  induction m with
  | zero => intro off k h; exact ⟨.e, h, trivial, by simp [concL], by simp [concL], by simp [concL]⟩
  | succ m ih =>
    intro off k h
    obtain ⟨v, h1, h2⟩ := opt_some (show opt (AO.at o off) (fun v => forceN (Nat.succ off) fun off => takeL o m off fun l => k (.c v l)) = some r from h)
    rw [forceN_eq] at h2
    obtain ⟨l, h3, h4, h5, h6, h7⟩ := ih (off + 1) _ h2
    obtain ⟨h8, h9, h10⟩ := ho.at h1
    refine ⟨.c v l, h3, ⟨h8, h4⟩, by simp [concL, h5], fun j u hu => ?_, fun u hu => ?_⟩
    · cases j with
      | zero => simp [concL] at hu; subst hu; exact h10
      | succ j => simp [concL] at hu; rw [show off + (j + 1) = off + 1 + j by omega]; exact h6 j u hu
    · simp only [concL, List.mem_cons] at hu
      rcases hu with rfl | hu
      · exact scalar_one h9
      · exact h7 u hu
theorem loadV_some {base : Nat} {hp : AH} {t : Nat} {x : Operand} (hh : HR ρ base hp w) (hn : hp.next = n) (h : loadV P rg hp t x k = some r) :
    ∃ v, k v = some r ∧ ok n v ∧ ∃ ad, a.eval x = .pointer (some ad) ∧ ∀ w' : World, w'.heap = w.heap → (loadVar t ad).run P w' = .ok (conc ρ v) w' := by
  obtain ⟨v, h1, h2, h3⟩ := oe_some h hr
  obtain ⟨id, off, rfl, h4⟩ := onP_some h1
  cases hone : one P t with
  | true =>
    rw [hone] at h4
    obtain ⟨ob, h7, h8⟩ := opt_some h4
    obtain ⟨u, h9, h10⟩ := opt_some h8
    obtain ⟨i, d, hi, hu, hs, hd⟩ := one_some hone
    obtain ⟨h11, _, h12⟩ := (hh.obj id ob h7).at h9
    refine ⟨u, h10, hn ▸ h11, ⟨ρ.σ id, off, none⟩, by simp [h3, conc], fun w' hw => ?_⟩
    have hc : w'.cell? ⟨ρ.σ id, off, none⟩ = some (conc ρ u) := by rw [← h12]; simp [World.cell?, hw]
    have hag : (isAgg t).run P w' = .ok false w' := by
      cases d <;> simp_all [isAgg, run_underlying hu]
    simp [loadVar, hag, hc]
  | false =>
    rw [hone] at h4
    obtain ⟨sz, hsz, h5⟩ := opt_some h4
    obtain ⟨fs, i, hus, hi, hs⟩ := structSize_some hsz
    obtain ⟨ob, h7, h8⟩ := opt_some h5
    obtain ⟨l, h9, h10, h11, h12, _⟩ := takeL_some (ρ := ρ) (n := n) (hn ▸ hh.obj id ob h7) _ _ _ h8
    refine ⟨_, h9, h10, ⟨ρ.σ id, off, none⟩, by simp [h3, conc], fun w' hw => ?_⟩
    have hag : (isAgg t).run P w' = .ok true w' := by simp [isAgg, run_underlying hus]
    have hld : (loadCells ⟨ρ.σ id, off, none⟩ sz).run P w' = .ok (concL ρ l).toArray w' := by
      rw [← h11]
      exact run_loadCells_list w' _ _ fun j u hj => by rw [add_conc]; simpa [World.cell?, hw] using h12 j u hj
    have hss : (sizeOf t).run P w' = .ok sz w' := by simp [sizeOf, typeInfo, hi, hs]
    simp only [loadVar, Sem.run_bind, hag, Result.andThen_ok, if_true, hss, hld, Sem.run_pure, conc]
theorem load_some {base : Nat} {hp : AH} {t : Nat} {x : Operand} (hh : HR ρ base hp w) (hn : hp.next = n) (h : loadV P rg hp t x k = some r) (ho : o.op = .load t x) : ∃ v, k v = some r ∧ Flat P ρ n w a o v := by
  obtain ⟨v, h1, h2, ad, h3, h4⟩ := loadV_some hr hh hn h
  exact ⟨v, h1, h2, fun w' hw => by simp [execOp, ho, h3, Instr.loadAt, Instr.sureAddr, h4 w' (hw (by simp [isLoad, ho]))]⟩
end
end Go.Proofs.YtcnallabiffemaaGreatDoor.Vm
