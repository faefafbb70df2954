/- The abstract machine's string iterators and struct literals; lists of arguments; whom a call calls. Conditions: the frame and the heap stand for the real ones. -/
import Derived.Test.YtcnallabiffemaaGreatDoorVmH
import Derived.Laws.BytesString
import Derived.Laws.IdiomStrings
import Derived.MapKept
namespace Go.Proofs.YtcnallabiffemaaGreatDoor.Vm
open Go Go.RowKit Go.Lib

section
variable {P : Program} {ρ : Env} {nt : Nat} {rg : T AV} {a : Act} {w : World} {k : T AV → AH → R} {r : AV × AH} {o : Oper} {base : Nat} {h : AH} (hr : RR ρ h.next nt rg a) (hh : HR ρ base h w)
include hr hh
theorem wRange_some {t : Nat} {x : Operand} (h1 : wRange P nt rg h o.dst k t x = some r) (ho : o.op = .range t x) : Wrote P ρ base h w nt k r a o := by
  obtain ⟨h2, h3⟩ := when_some h1
  have hu := isStr_some h2
  obtain ⟨v, h4, _, h5⟩ := oe_some h3 hr
  obtain ⟨s, rfl, h6⟩ := onS_some h4
  have hrun : (execOp a.eval o).run P w = .ok (.value (.pointer (some ⟨w.heap.size, 0, none⟩))) (w.iter s 0) := by
    simp only [execOp, ho, h5, conc, Sem.run_bind, run_range_string w t s hu]
    rfl
  refine ⟨_, _, .inl hrun, ?_⟩
  have := wNew_alloc (c := 0) h6 hr hh (w' := w.iter s 0) rfl (below_push rfl rfl rfl hh.room rfl) (by show _ = _; rw [up_σ]; exact push_new rfl) (Nat.lt_succ_self _)
  simpa [conc, up_σ] using this
theorem wNext_some {it : Operand} {b : Bool} (h1 : wNext nt rg h o.dst k it b = some r) (ho : o.op = .next it b) : Wrote P ρ base h w nt k r a o := by
  obtain ⟨rfl, h2⟩ := when_some h1
  obtain ⟨v, h3, h4, h5⟩ := oe_some h2 hr
  obtain ⟨id, off, rfl, h6⟩ := onP_some h3
  obtain ⟨h7, h8⟩ := when_some h6
  obtain rfl : off = 0 := Nat.eq_of_beq_eq_true h7
  obtain ⟨ob, h9, h10⟩ := opt_some h8
  obtain ⟨s, pos, rfl, h11⟩ := onIter_some h10
  have hob : w.heap[ρ.σ id]? = some (.stringIter s pos) := hh.obj id _ h9
  cases hb : Nat.blt pos s.size with
  | false =>
    rw [hb] at h11
    have hlt : ¬ pos < s.size := fun hl => by rw [show Nat.blt pos s.size = true by rw [Nat.blt_eq]; exact hl] at hb; cases hb
    have hrun : (execOp a.eval o).run P w = .ok (.value (.tuple #[.bool false])) w := by
      simp only [execOp, ho, h5, conc, Sem.run_bind, run_next_end_at w _ s pos _ hob hlt]
      rfl
    refine ⟨_, _, .inl hrun, ?_⟩
    obtain ⟨rg', h12, h13⟩ := setR_some h11 hr (v := .tu (.c (.b false) .e)) ⟨trivial, trivial⟩
    exact ⟨rg', h, ρ, h12, Ext.refl _ _, Nat.le_refl _, hh, h13, Below.refl _ _⟩
  | true =>
    rw [hb] at h11
    have hlt : pos < s.size := by simpa [Nat.blt_eq] using hb
    have h12 : wObj nt rg h o.dst k id (.iter s (pos + (Utf8.decode s pos).2)) (.tu (.c (.b true) (.c (.i .i64 (.ofNat pos)) (.c (.i .i32 (.ofNat (Utf8.decode s pos).1)) .e)))) = some r :=
      (forceN_eq (Nat.add pos (Utf8.decode s pos).2) _).symm.trans ((forceN_eq (Utf8.decode s pos).1 _).symm.trans h11)
    have hrun : (execOp a.eval o).run P w = .ok (.value (.tuple #[.bool true, .int .i64 pos, .int .i32 (Utf8.decode s pos).1])) (w.iterAt (ρ.σ id) s (pos + (Utf8.decode s pos).2)) := by
      simp only [execOp, ho, h5, conc, Sem.run_bind, run_next_any_at w _ s pos _ hob hlt]
      rfl
    refine ⟨_, _, .inl hrun, ?_⟩
    have hoth : ∀ b, b ≠ ρ.σ id → (w.iterAt (ρ.σ id) s (pos + (Utf8.decode s pos).2)).heap[b]? = w.heap[b]? := fun b hb => iterAt_other w _ _ s _ hb
    exact wObj_some (v := .tu (.c (.b true) (.c (.i .i64 (.ofNat pos)) (.c (.i .i32 (.ofNat (Utf8.decode s pos).1)) .e)))) h12 hr hh h9 (by simp) rfl (iterAt_size _ _ _ _) hoth
      (below_block rfl rfl rfl (iterAt_size _ _ _ _) (hh.own id _ h9 rfl) hoth) (iterAt_heap _ _ _ _ _ hob) ⟨trivial, trivial, trivial, trivial⟩
end

/-! ### Struct literals -/
theorem toAV_some {ρ : Env} {n : Nat} : ∀ {l : List Value} {z : List AV}, l.mapM ofVal = some z → ok n (toAV z) ∧ concL ρ (toAV z) = l := by
  intro l
  induction l with
  | nil => intro z h; cases h; exact ⟨trivial, rfl⟩
  | cons x l ih =>
    intro z h
    rw [List.mapM_cons] at h
    cases hx : ofVal x with
    | none => simp [hx] at h
    | some y =>
      cases hl : l.mapM ofVal with
      | none => simp [hx, hl] at h
      | some m =>
        simp [hx, hl] at h
        subst h
        obtain ⟨h1, h2⟩ := ih hl
        obtain ⟨h3, h4⟩ := ofVal_some hx ρ n
        exact ⟨⟨h4, h1⟩, by show conc ρ y :: concL ρ (toAV m) = _; rw [h3, h2]⟩
theorem setNth_some {ρ : Env} {n : Nat} {x : AV} {r : AV × AH} (hx : ok n x) : ∀ (d : Nat) (l : AV) (k : AV → R), setNth d x l k = some r → ok n l →
    ∃ l', k l' = some r ∧ ok n l' ∧ d < (concL ρ l).length ∧ concL ρ l' = (concL ρ l).set d (conc ρ x) := by
  intro d
  induction d with
  | zero =>
    intro l k h hl
    rcases onL_some (show onL l none (fun _ l => k (.c x l)) = some r from h) with ⟨_, h1⟩ | ⟨y, m, rfl, h1⟩
    · cases h1
    · exact ⟨_, h1, ⟨hx, hl.2⟩, by simp [concL], by simp [concL]⟩
  | succ d ih =>
    intro l k h hl
    rcases onL_some (show onL l none (fun y l => setNth d x l fun l => k (.c y l)) = some r from h) with ⟨_, h1⟩ | ⟨y, m, rfl, h1⟩
    · cases h1
    · obtain ⟨l', h2, h3, h4, h5⟩ := ih m _ h1 hl.2
      exact ⟨_, h2, ⟨hl.1, h3⟩, by simp [concL]; omega, by simp [concL, h5]⟩
section
variable {P : Program} {ρ : Env} {n nt : Nat} {rg : T AV} {a : Act} {w : World} {k : AV → R} {r : AV × AH} {o : Oper} (hr : RR ρ n nt rg a)
include hr
theorem fillS_some {s : Nat} {fs : Array Field} {places : List (Nat × Nat)} (hu : P.underlying s = some (.struct fs)) (hp : fs.toList.mapM (fun f => (P.info? f.type).map fun i => (f.offset, i.size)) = some places) :
    ∀ (l : List (Nat × Operand)) (cs : AV), fillS P rg s l cs k = some r → ok n cs →
    ∃ cs', k cs' = some r ∧ ok n cs' ∧ Instr.fill (fun i => places.toArray[i]?) (concL ρ cs).toArray (l.map fun ix => (ix.1, a.eval ix.2)) = some (concL ρ cs').toArray := by
  intro l
  induction l with
  | nil => intro cs h hc; exact ⟨cs, h, hc, by simp [Instr.fill]⟩
  | cons ix l ih =>
    intro cs h hc
    obtain ⟨d, h1, h2⟩ := opt_some (show opt (fieldOff P s ix.1) (fun d => oe rg ix.2 fun v => when (scalar v) (setNth d v cs fun cs => fillS P rg s l cs k)) = some r from h)
    obtain ⟨v, h3, h4, h5⟩ := oe_some h2 hr
    obtain ⟨h6, h7⟩ := when_some h3
    obtain ⟨cs1, h8, h9, h10, h11⟩ := setNth_some (ρ := ρ) h4 d cs _ h7 hc
    obtain ⟨cs', h12, h13, h14⟩ := ih cs1 h8 h9
    obtain ⟨fs', fd, hu', hf, h1', rfl⟩ := fieldOff_some h1
    obtain rfl : fs' = fs := by rw [hu] at hu'; cases hu'; rfl
    obtain ⟨i, _, hi, _, hs, _⟩ := one_some h1'
    have hpl : places[ix.1]? = some (fd.offset, 1) := by
      have := mapM_some_get hp ix.1 fd (by simpa using hf)
      rw [← this]
      simp [hi, hs]
    refine ⟨cs', h12, h13, ?_⟩
    rw [← h14, h11]
    simp only [List.map_cons, Instr.fill, List.getElem?_toArray, hpl, h5, scalar_cells h6]
    rw [if_neg (by simp; omega)]
    simp
theorem pBuild_some {t : Nat} {parts : Array (Nat × Operand)} (h : pBuild P rg k t parts = some r) (ho : o.op = .build t parts) : ∃ v, k v = some r ∧ Flat P ρ n w a o v := by
  obtain ⟨z, h1, h2⟩ := opt_some h
  obtain ⟨h3, h4⟩ := when_some h2
  unfold structOk at h3
  split at h3 <;> try cases h3
  rename_i fs hu
  obtain ⟨places, hp⟩ := Option.isSome_iff_exists.1 h3
  unfold zeroL at h1
  split at h1 <;> try cases h1
  rename_i cs hz
  cases hi : P.info? t with
  | none => simp [hi] at hz
  | some i =>
    simp [hi] at hz
    obtain ⟨h5, h6⟩ := toAV_some (ρ := ρ) (n := n) h1
    obtain ⟨cs', h7, h8, h9⟩ := fillS_some hr hu hp _ _ h4 h5
    refine ⟨_, h7, h8, fun w' _ => ?_⟩
    have hb : P.built t (parts.map fun (i, x) => (i, a.eval x)).toList = some (concL ρ cs').toArray := by
      simp only [Program.built, hi, hu, hz, hp]
      rw [h6] at h9
      simpa [Value.cells] using h9
    simp only [execOp, ho, conc, Sem.run_bind, run_build w' t _ _ hb]
    rfl
omit hr in
theorem appK_some {l m : AV} : ∀ (k : AV → R), appK l m k = some r → ok n l → ok n m → ∃ u, k u = some r ∧ ok n u ∧ concL ρ u = concL ρ l ++ concL ρ m := by
  induction l with
  | e => intro k h _ hm; exact ⟨m, h, hm, by simp [concL]⟩
  | c x l _ ih =>
    intro k h hl hm
    obtain ⟨u, h1, h2, h3⟩ := ih (fun r => k (.c x r)) h hl.2 hm
    exact ⟨_, h1, ⟨hl.1, h2⟩, by simp [concL, h3]⟩
  | _ => intro k h; cases h
theorem cValue_some {f : Operand} {args : List Operand} {k : Nat → AV → R} (h : cValue rg f args k = some r) :
    ∃ fn caps l u, a.eval f = .func (.func fn) #[] (concL ρ caps).toArray ∧ args.map a.eval = concL ρ l ∧ ok n u ∧ concL ρ u = concL ρ l ++ concL ρ caps ∧ k fn u = some r := by
  obtain ⟨v, h1, h2, h3⟩ := oe_some h hr
  obtain ⟨fn, caps, rfl, h4⟩ := onF_some h1
  obtain ⟨l, h5, h6, h7⟩ := oes_some hr _ _ _ h4
  obtain ⟨u, h8, h9, h10⟩ := appK_some (ρ := ρ) _ h5 h6 h2
  exact ⟨fn, caps, l, u, by simp [h3, conc], h7.symm, h9, h10, h8⟩
theorem cInvoke_some {x : Operand} {name : String} {args : List Operand} {k : Nat → AV → R} (h : cInvoke P rg x name args k = some r) :
    ∃ t v f l, a.eval x = .iface t (conc ρ v) ∧ methodOf P t name = some f ∧ args.map a.eval = concL ρ l ∧ ok n (.c v l) ∧ k f (.c v l) = some r := by
  obtain ⟨v, h1, h2, h3⟩ := oe_some h hr
  obtain ⟨t, v, rfl, h4⟩ := onIt_some h1
  obtain ⟨f, h5, h6⟩ := opt_some h4
  obtain ⟨l, h7, h8, h9⟩ := oes_some hr _ _ _ h6
  exact ⟨t, v, f, l, by simp [h3, conc], h5, h9.symm, ⟨h2, h8⟩, h7⟩
end

/-! ### Strings and bytes -/
theorem strL_some {ρ : Env} {r : AV × AH} : ∀ (l : AV) (s : ByteArray) (k : ByteArray → R), strL l s k = some r → ∃ ns : List Int, k (ns.foldl (fun r n => r.push (UInt8.ofNat n.toNat)) s) = some r ∧ concL ρ l = ns.map (Value.int .u8) := by
  intro l
  induction l with
  | e => intro s k h; exact ⟨[], h, rfl⟩
  | c x l _ ih =>
    intro s k h
    obtain ⟨kd, n, rfl, h1⟩ := onI_some (show onI x (fun kd n => when (Nat.beq (kn kd) 4) (nat2 n 0 (fun m _ => strL l (s.push (UInt8.ofNat m)) k) none)) = some r from h)
    obtain ⟨h2, h3⟩ := when_some h1
    obtain rfl : kd = .u8 := kn_inj (b := .u8) h2
    rcases nat2_some h3 with ⟨m, _, rfl, _, h4⟩ | h4
    · obtain ⟨ns, h5, h6⟩ := ih _ k h4
      exact ⟨.ofNat m :: ns, h5, by simp [concL, conc, h6]⟩
    · cases h4
  | _ => intro s k h; cases h
theorem bytesL_conc {ρ : Env} {n : Nat} (s : ByteArray) : ok n (bytesL s) ∧ concL ρ (bytesL s) = s.data.toList.map fun b => Value.int .u8 (b.toNat : Int) := by
  unfold bytesL
  generalize s.data.toList = l
  induction l with
  | nil => exact ⟨trivial, rfl⟩
  | cons b l ih =>
    refine ⟨⟨trivial, ih.1⟩, ?_⟩
    show conc ρ (.i .u8 (.ofNat b.toNat)) :: concL ρ (toAV (l.map fun b => .i .u8 (.ofNat b.toNat))) = _
    rw [ih.2]
    rfl
section
variable {P : Program} {ρ : Env} {nt : Nat} {rg : T AV} {a : Act} {w : World} {k : T AV → AH → R} {r : AV × AH} {o : Oper} {base : Nat} {h : AH} (hr : RR ρ h.next nt rg a) (hh : HR ρ base h w)
include hr hh
theorem wConv_some {s d : Nat} {x : Operand} (h1 : wConv P nt rg h o.dst k s d x = some r) (ho : o.op = .convert s d x) :
    (∃ v, setR nt rg o.dst v (fun rg => k rg h) = some r ∧ Flat P ρ h.next w a o v) ∨ Wrote P ρ base h w nt k r a o := by
  unfold wConv at h1
  cases hi : Vm.intOf P s d with
  | some kd =>
    rw [hi] at h1
    exact .inl (pConv_some (P := P) (w := w) hr h1 ho)
  | none =>
    rw [hi] at h1
    obtain ⟨v, h2, h3, h4⟩ := oe_some (show oe rg x _ = some r from h1) hr
    cases hd : isStr P d with
    | true =>
      rw [hd] at h2
      obtain ⟨e, h5, h6⟩ := opt_some h2
      obtain ⟨h7, h8⟩ := when_some h6
      have hs := elemOf_some h5
      have he := isU8_some h7
      have hdd := isStr_some hd
      have fin : ∀ {id off len cap : Nat} {ob : AO}, conc ρ v = .slice (some ⟨ρ.σ id, off, none⟩) len cap → T.get h.objs id = some ob →
          (takeL ob len off fun l => strL l ⟨#[]⟩ fun s => setR nt rg o.dst (.s s) fun rg => k rg h) = some r → Wrote P ρ base h w nt k r a o := by
        intro id off len cap ob hv h9 h10
        obtain ⟨l, h11, h12, h13, h14, _⟩ := takeL_some (hh.obj id ob h9) _ _ _ h10
        obtain ⟨ns, h15, h16⟩ := strL_some (ρ := ρ) _ _ _ h11
        obtain ⟨rg', h17, h18⟩ := setR_some h15 hr (v := .s _) trivial
        have hld : (loadCells ⟨ρ.σ id, off, none⟩ len).run P w = .ok (ns.map (Value.int .u8)).toArray w := by
          rw [← h13, ← h16]
          exact run_loadCells_list w _ _ fun j u hj => by rw [add_conc]; exact h14 j u hj
        have hrun : (execOp a.eval o).run P w = .ok (.value (.string (ns.foldl (fun r n => r.push (UInt8.ofNat n.toNat)) ByteArray.empty))) w := by
          simp only [execOp, ho, h4, hv, Sem.run_bind, run_convert_bytes_string w s d e _ _ _ hs he hdd, run_bytesToString w _ _ _ ns hld, Result.andThen_ok, Sem.run_pure]
        exact ⟨_, _, .inl hrun, rg', h, ρ, h17, Ext.refl _ _, Nat.le_refl _, hh, h18, Below.refl _ _⟩
      rcases onSl_some h8 with ⟨id, off, len, cap, rfl, h9⟩ | ⟨id, len, rfl, h9⟩ | ⟨_, h9⟩
      · obtain ⟨ob, h10, h11⟩ := opt_some h9
        exact .inr (fin rfl h10 h11)
      · obtain ⟨ob, h10, h11⟩ := opt_some h9
        exact .inr (fin rfl h10 h11)
      · cases h9
    | false =>
      rw [hd] at h2
      obtain ⟨h5, h6⟩ := when_some h2
      obtain ⟨e, h7, h8⟩ := opt_some h6
      obtain ⟨h9, h10⟩ := when_some h8
      have hs := isStr_some h5
      have hdd := elemOf_some h7
      have he := isU8_some h9
      obtain ⟨st, rfl, h11⟩ := onS_some h10
      obtain ⟨bo, bc⟩ := bytesL_conc (ρ := ρ) (n := h.next) st
      obtain ⟨cs, m, h12, h13, _, h14⟩ := putL_some (ρ := ρ) (n := h.next) _ _ 0 _ h11 bo
      have hrun : (execOp a.eval o).run P w = .ok (.value (.slice (some ⟨w.heap.size, 0, none⟩) st.size (grownCap w st.size 0 e)))
          (w.drew.alloc (.cells (bytesRow st (grownCap w st.size 0 e)) e ((bytesRow st (grownCap w st.size 0 e)).size, (bytesRow st (grownCap w st.size 0 e)).size + 1))) := by
        simp only [execOp, ho, h4, conc, Sem.run_bind, run_bytes_of_string w s d e st hs hdd he, Result.andThen_ok, Sem.run_pure]
      refine .inr ⟨_, _, .inl hrun, ?_⟩
      have := wNew_alloc (c := grownCap w st.size 0 e) h12 hr hh (w' := w.drew.alloc (.cells (bytesRow st (grownCap w st.size 0 e)) e ((bytesRow st (grownCap w st.size 0 e)).size, (bytesRow st (grownCap w st.size 0 e)).size + 1))) rfl
        (below_push rfl rfl rfl hh.room rfl)
        ⟨_, _, by rw [up_σ]; exact push_new rfl, Row.ext (ρ := ρ) (n := h.next) (fun j hj y hy => by
          rcases h14 j y hy with ⟨_, b2, b3, b4, b5⟩ | ⟨_, b2⟩
          · refine ⟨b3, b4, ?_⟩
            have hj' : j < st.data.size := hj
            rw [Nat.sub_zero, bc] at b5
            rw [bytesRow_at st _ j hj', ← b5]
            simp only [List.getElem?_map, Array.getElem?_toList, Array.getElem?_eq_getElem hj', Option.map_some]
          · rw [show T.get (T.leaf : T AV) j = T.getB (bits j) .leaf from rfl, getB_leaf] at b2; cases b2) (up_ext ρ _ _ _) (Nat.le_succ _)⟩ (Nat.lt_succ_self _)
      simpa [conc, up_σ, up_κ] using this

/-! ### Maps -/
omit hr hh in
theorem findM_some {n : Nat} {m : Int} {k : Option AV → R} : ∀ (es : AV) (l : List MapEntry) (i : Nat), findM es m k = some r → ER ρ n es l →
    ∃ f, k f = some r ∧ (f = none → Instr.findNow (.int .i64) (.int .i64 m) l i = some none) ∧ ∀ v, f = some v → ok n v ∧ scalar v = true ∧ ∃ j, Instr.findNow (.int .i64) (.int .i64 m) l i = some (some (j, conc ρ v)) := by
  intro es
  induction es with
  | e =>
    intro l i h hl
    have : l = [] := hl
    subst this
    exact ⟨none, h, fun _ => rfl, fun v hv => by cases hv⟩
  | c x es _ ih =>
    intro l i h hl
    unfold ER at hl
    split at hl
    · rename_i e; cases e
    · rename_i _ kd q v es' e
      cases e
      obtain ⟨y, l', rfl, h1, h2, h3, h4, h5, h6⟩ := hl
      subst h1
      have h7 : Bool.rec (motive := fun _ => R) (findM es m k) (k (some v)) (iEq q m) = some r := h
      cases hb : iEq q m with
      | true =>
        rw [hb] at h7
        have hq : q = m := by rw [iEq_eq] at hb; simpa using hb
        refine ⟨some v, h7, (fun e => by cases e), fun v' hv => ?_⟩
        cases hv
        exact ⟨h4, h5, i, by simp [Instr.findNow, h2, Instr.sameNow, hq, h3]⟩
      | false =>
        rw [hb] at h7
        have hq : ¬ q = m := by rw [iEq_eq] at hb; simpa using hb
        obtain ⟨f, g1, g2, g3⟩ := ih l' (i + 1) h7 h6
        have step : Instr.findNow (.int .i64) (.int .i64 m) (y :: l') i = Instr.findNow (.int .i64) (.int .i64 m) l' (i + 1) := by
          have hmq : (m == q) = false := beq_false_of_ne fun e => hq e.symm
          simp [Instr.findNow, h2, Instr.sameNow, hmq]
        rw [step]
        exact ⟨f, g1, g2, g3⟩
    · exact hl.elim
  | _ => intro l i h; cases h
omit hr hh in
theorem ER_app {n : Nat} {m : Int} {v : AV} {x : MapEntry} (hv : ok n v) (hs : scalar v = true) (hx : x.key = .int .i64 m) (hx' : x.val = conc ρ v) : ∀ (es : AV) (l : List MapEntry) (k : AV → R), appK es (.c (.tu (.c (.i .i64 m) (.c v .e))) .e) k = some r → ER ρ n es l →
    ∃ es', k es' = some r ∧ ER ρ n es' (l ++ [x]) := by
  intro es
  induction es with
  | e =>
    intro l k h hl
    have : l = [] := hl
    subst this
    exact ⟨_, h, x, [], rfl, rfl, hx, hx', hv, hs, rfl⟩
  | c y es _ ih =>
    intro l k h hl
    unfold ER at hl
    split at hl
    · rename_i e; cases e
    · rename_i _ kd q v' es' e
      cases e
      obtain ⟨y, l', rfl, h1, h2, h3, h4, h5, h6⟩ := hl
      obtain ⟨es2, g1, g2⟩ := ih l' _ h h6
      exact ⟨_, g1, y, l' ++ [x], rfl, h1, h2, h3, h4, h5, g2⟩
    · exact hl.elim
  | _ => intro l k h; cases h
theorem wMap_some {t : Nat} {res : Option Operand} (h1 : wMap P nt rg h o.dst k t res = some r) (ho : o.op = .makeMap t res) : Wrote P ρ base h w nt k r a o := by
  obtain ⟨e, _, h2⟩ := opt_some h1
  cases res with
  | some x => cases h2
  | none =>
    have hrun : (execOp a.eval o).run P w = .ok (.value (.map (some w.heap.size))) (w.alloc (.map #[] 0)) := by
      simp [execOp, ho, Instr.makeMap]
    refine ⟨_, _, .inl hrun, ?_⟩
    have := wNew_alloc (c := 0) h2 hr hh (w' := w.alloc (.map #[] 0)) rfl (below_push rfl rfl rfl hh.room rfl) ⟨#[], 0, by rw [up_σ]; exact push_new rfl, rfl⟩ (Nat.lt_succ_self _)
    simpa [conc, up_σ] using this
theorem wLookup_some {t : Nat} {m key : Operand} {c : Bool} (h1 : wLookup P nt rg h o.dst k t m key c = some r) (ho : o.op = .lookup t m key c) : ∃ v, setR nt rg o.dst v (fun rg => k rg h) = some r ∧ ok h.next v ∧ (execOp a.eval o).run P w = .ok (.value (conc ρ v)) w := by
  obtain ⟨hc, h2⟩ := when_some h1
  obtain ⟨e, he, h3⟩ := opt_some h2
  obtain ⟨kt, hk1, hk2⟩ := mapElem_some he
  obtain ⟨mv, h4, _, h5⟩ := oe_some h3 hr
  obtain ⟨id, rfl, h6⟩ := onM_some h4
  obtain ⟨kv, h7, _, h8⟩ := oe_some h6 hr
  obtain ⟨kd, n, rfl, h9⟩ := onI_some h7
  obtain ⟨h10, h11⟩ := when_some h9
  obtain rfl : kd = .i64 := kn_inj (b := .i64) h10
  obtain ⟨ob, h12, h13⟩ := opt_some h11
  obtain ⟨es, rfl, h14⟩ := onMap_some h13
  obtain ⟨l, clock, hl, her⟩ := hh.obj id _ h12
  obtain ⟨f, h15, _, h16⟩ := findM_some _ _ 0 h14 her
  obtain ⟨v, rfl, h17⟩ := opt_some h15
  obtain ⟨h18, _, j, h19⟩ := h16 v rfl
  refine ⟨v, h17, h18, ?_⟩
  have hc' : c = false := by simpa using hc
  subst hc'
  simp only [execOp, ho, h5, h8, conc, Instr.lookup, Sem.run_bind, run_underlying hk1, Result.andThen_ok, MapKept.run_getObj_map hl, MapKept.run_checkKey (w := w) hk2 (show MapKept.IsKey (.int .i64) (.int .i64 n) by simp [MapKept.IsKey]) _ 9999,
    MapKept.run_findKey (w := w) hk2 h19, Sem.run_pure]
  rfl
theorem wInsert_some {t : Nat} {m key x : Operand} (h1 : wInsert P nt rg h o.dst k t m key x = some r) (ho : o.op = .insert t m key x) : Wrote P ρ base h w nt k r a o := by
  obtain ⟨e, he, h3⟩ := opt_some h1
  obtain ⟨kt, hk1, hk2⟩ := mapElem_some he
  obtain ⟨mv, h4, hid, h5⟩ := oe_some h3 hr
  obtain ⟨id, rfl, h6⟩ := onM_some h4
  obtain ⟨kv, h7, _, h8⟩ := oe_some h6 hr
  obtain ⟨kd, n, rfl, h9⟩ := onI_some h7
  obtain ⟨h10, h11⟩ := when_some h9
  obtain rfl : kd = .i64 := kn_inj (b := .i64) h10
  obtain ⟨v, h12, hv, h13⟩ := oe_some h11 hr
  obtain ⟨hsc, h14⟩ := when_some h12
  obtain ⟨ob, h15, h16⟩ := opt_some h14
  obtain ⟨es, rfl, h17⟩ := onMap_some h16
  obtain ⟨l, clock, hl, her⟩ := hh.obj id _ h15
  obtain ⟨f, h18, h19, _⟩ := findM_some _ _ 0 h17 her
  cases f with
  | some y => cases h18
  | none =>
    obtain ⟨es', h20, h21⟩ := ER_app (ρ := ρ) (x := { key := .int .i64 n, val := conc ρ v, born := clock }) hv hsc rfl rfl _ _ _ h18 her
    have hrun : (execOp a.eval o).run P w = .ok .skip { w with heap := w.heap.setIfInBounds (ρ.σ id) (.map (l.push { key := .int .i64 n, val := conc ρ v, born := clock }) (clock + 1)) } := by
      simp only [execOp, ho, h5, h8, h13, conc, Instr.mapUpdate, Sem.run_bind, run_underlying hk1, Result.andThen_ok, MapKept.run_getObj_map hl, MapKept.run_checkKey (w := w) hk2 (show MapKept.IsKey (.int .i64) (.int .i64 n) by simp [MapKept.IsKey]) _ 9999,
        MapKept.run_findKey (w := w) hk2 (h19 rfl), MapKept.run_setObj_map _ hl, Sem.run_pure]
    obtain ⟨hs1, hs2⟩ := MapKept.heap_set (o' := .map (l.push { key := .int .i64 n, val := conc ρ v, born := clock }) (clock + 1)) hl
    refine ⟨undef, _, .inr ⟨hrun, rfl⟩, ?_⟩
    exact wObj_some (v := .tu .e) h20 hr hh h15 (by simp) rfl (by simp) (fun b hb => hs2 b hb) (below_block rfl rfl rfl (by simp) (hh.own id _ h15 rfl) fun b hb => hs2 b hb) ⟨_, _, hs1, by simpa using h21⟩ trivial
end
end Go.Proofs.YtcnallabiffemaaGreatDoor.Vm
