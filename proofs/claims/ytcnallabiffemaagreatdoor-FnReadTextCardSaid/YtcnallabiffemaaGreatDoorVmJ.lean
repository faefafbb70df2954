/- The abstract machine's rows of operations in the order of the text: sound. Conditions: the callee words are sound. -/
import Derived.Test.YtcnallabiffemaaGreatDoorVmI
import Derived.Conc.MuLone
namespace Go.Proofs.YtcnallabiffemaaGreatDoor.Vm
open Go Go.RowKit

/-- What a run of the abstract machine says of the real one; where q, nothing was written. -/
def Went (q : Bool) (base : Nat) (ρ : Env) (h : AH) (w : World) (ρ' : Env) (h' : AH) (w' : World) : Prop :=
  Ext ρ h.next ρ' ∧ h.next ≤ h'.next ∧ HR ρ' base h' w' ∧ Below base w w' ∧ (q = true → ρ' = ρ ∧ h' = h ∧ ∃ m, w' = w.drewN m)
theorem Went.refl {q : Bool} {base : Nat} {ρ : Env} {h : AH} {w : World} (hh : HR ρ base h w) : Went q base ρ h w ρ h w :=
  ⟨Ext.refl _ _, Nat.le_refl _, hh, Below.refl _ _, fun _ => ⟨rfl, rfl, 0, rfl⟩⟩
theorem Went.trans {q : Bool} {base : Nat} {ρ ρ' ρ'' : Env} {h h' h'' : AH} {w w' w'' : World} (h1 : Went q base ρ h w ρ' h' w') (h2 : Went q base ρ' h' w' ρ'' h'' w'') : Went q base ρ h w ρ'' h'' w'' := by
  refine ⟨h1.1.trans h2.1 h1.2.1, Nat.le_trans h1.2.1 h2.2.1, h2.2.2.1, h1.2.2.2.1.trans h2.2.2.2.1, fun e => ?_⟩
  obtain ⟨rfl, rfl, m, rfl⟩ := h1.2.2.2.2 e
  obtain ⟨rfl, rfl, m', rfl⟩ := h2.2.2.2.2 e
  exact ⟨rfl, rfl, m + m', by simp [World.drewN, Nat.add_assoc]⟩
/-- How a call comes back. -/
def Came (q : Bool) (base : Nat) (ρ : Env) (h : AH) (w : World) (k : AV → AH → R) (r : AV × AH) : Ending → World → Prop := fun e w' =>
  ∃ v h' ρ', k v h' = some r ∧ e = .returned (conc ρ' v) ∧ ok h'.next v ∧ Went q base ρ h w ρ' h' w'
def CallWord (P : Program) (q : Bool) (f : Nat) (call : AV → AH → (AV → AH → R) → R) : Prop :=
  ∀ l h k r, call l h k = some r → ∀ ρ base w, HR ρ base h w → ok h.next l →
    (∃ fn c, P.funcs[f]? = some fn ∧ noNG fn = true ∧ fn.body = some c) ∧ Calls P f (concL ρ l).toArray w (Came q base ρ h w k r)
/-- What follows holds of whatever the words hand on. -/
def Kont (q : Bool) (base : Nat) (ρ : Env) (h : AH) (w : World) (nt : Nat) (k : T AV → AH → R) (r : AV × AH) (next : Act → World → Prop) : Prop :=
  ∀ rg' h' ρ' a' w', k rg' h' = some r → Went q base ρ h w ρ' h' w' → RR ρ' h'.next nt rg' a' → next a' w'

theorem want_some {ρ : Env} {n nt : Nat} {rg : T AV} {a : Act} {ops : Array Oper} {o : Oper} {yes no : R} {r : AV × AH} (hr : RR ρ n nt rg a) (h : want ops rg o.guard yes no = some r) :
    if Region.wanted o (yielded ops a.tmps) then yes = some r else no = some r := by
  cases hg : o.guard with
  | none => rw [hg] at h; simp only [Region.wanted, hg, if_true]; exact h
  | some jx =>
    obtain ⟨j, x⟩ := jx
    rw [hg] at h
    obtain ⟨d, hd, h1⟩ := opt_some h
    obtain ⟨v, hv, h2⟩ := opt_some h1
    obtain ⟨_, _, h3⟩ := hr.slot d v hv
    have hy : yielded ops a.tmps j = match conc ρ v with | .bool b => some b | _ => none := by
      have hd' : (ops[j]?).bind (·.dst) = some d := hd
      have h3' : (some d).bind (a.tmps[·]?) = some (conc ρ v) := h3
      unfold yielded
      rw [hd', h3']
      cases v <;> simp [conc] <;> rfl
    cases v with
    | b y =>
      cases x <;> cases y <;> simp only [Region.wanted, hg, hy, conc] <;> exact h2
    | e => cases h2
    | c x l => cases h2
    | _ => simp only [Region.wanted, hg, hy, conc]; exact h2

theorem run_methodOf {P : Program} {t : Nat} {name : String} {f : Nat} (h : methodOf P t name = some f) (v : Value) (w : World) (fuel : Nat) : (method (fuel + 1) t v name).run P w = .ok (f, v) w := by
  unfold methodOf at h
  split at h
  · rename_i m fs hm hu
    split at h
    · rename_i g hp hf
      cases h
      have hp' : m.path = #[] := Array.eq_empty_of_size_eq_zero hp
      cases hi : P.info? t with
      | none => simp [hi] at hm
      | some i =>
        have hm' : i.methods.find? (·.name == name) = some m := by simpa [hi] using hm
        simp [method, typeInfo, hi, hm', hp', follow, hf, receiverAt, run_underlying hu, Place.get]
    · cases h
  · cases h

section
variable {P : Program} {ρ : Env} {nt : Nat} {rg : T AV} {a : Act} {w : World} {r : AV × AH} {o : Oper} {base : Nat} {h : AH} (hr : RR ρ h.next nt rg a) (hh : HR ρ base h w)
include hr
theorem value_run {f : Operand} {c : Call} {k : Nat → AV → R} (h1 : cValue rg f c.args.toList k = some r) (ho : o.op = .call c) (hc : c.callee = .value f) :
    ∃ fn u, k fn u = some r ∧ ok h.next u ∧ ∀ w' : World, (∃ g b, P.funcs[fn]? = some g ∧ noNG g = true ∧ g.body = some b) → (execOp a.eval o).run P w' = .ok (.enter fn (concL ρ u).toArray) w' := by
  obtain ⟨fn, caps, l, u, h2, h3, h4, h5, h6⟩ := cValue_some hr h1
  refine ⟨fn, u, h6, h4, fun w' hb => ?_⟩
  obtain ⟨g, b, hg, hn, hb⟩ := hb
  have hargs : c.args.map a.eval = (concL ρ l).toArray := Array.ext' (by simp [h3])
  have : (callFunc fn (concL ρ u).toArray).run P w' = .ok (.enter fn (concL ρ u).toArray) w' := Go.MuLone.run_callFunc_enter hg (by simpa [noNG] using hn) hb _ _
  simp only [execOp, ho, resolve, hc, h2, hargs, Deferred.ofValue, Sem.run_bind, Sem.run_pure, Result.andThen_ok, invoke]
  rw [← this, h5]
  simp
theorem invoke_run {x : Operand} {name : String} {c : Call} {k : Nat → AV → R} (h1 : cInvoke P rg x name c.args.toList k = some r) (ho : o.op = .call c) (hc : c.callee = .invoke x name) :
    ∃ fn u, k fn u = some r ∧ ok h.next u ∧ ∀ w' : World, (∃ g b, P.funcs[fn]? = some g ∧ noNG g = true ∧ g.body = some b) → (execOp a.eval o).run P w' = .ok (.enter fn (concL ρ u).toArray) w' := by
  obtain ⟨t, v, fn, l, h2, h3, h4, h5, h6⟩ := cInvoke_some hr h1
  refine ⟨fn, _, h6, h5, fun w' hb => ?_⟩
  obtain ⟨g, b, hg, hn, hb⟩ := hb
  have hargs : c.args.map a.eval = (concL ρ l).toArray := Array.ext' (by simp [h4])
  have : (callFunc fn (concL ρ (.c v l)).toArray).run P w' = .ok (.enter fn (concL ρ (.c v l)).toArray) w' := Go.MuLone.run_callFunc_enter hg (by simpa [noNG] using hn) hb _ _
  have hm : (method (P.types.size + Made.depth) t (conc ρ v) name).run P w' = .ok (fn, conc ρ v) w' := run_methodOf h3 _ _ (P.types.size + 99)
  simp only [execOp, ho, resolve, hc, h2, hargs, Sem.run_bind, Sem.run_pure, Result.andThen_ok, invoke]
  simp [callMethod, hm]
  rw [← this]
  simp [concL]
theorem flat_wp {v : AV} {k : T AV → AH → R} {next : Act → World → Prop} {Q : Exit → Act → World → Prop} (hh : HR ρ base h w) (h1 : setR nt rg o.dst v (fun rg => k rg h) = some r) (hf : Flat P ρ h.next w a o v) (hk : Kont false base ρ h w nt k r next) : o.wp P a w next Q := by
  obtain ⟨rg', h2, h3⟩ := setR_some h1 hr hf.1
  unfold Oper.wp
  rw [hf.2 w (fun _ => rfl)]
  exact hk rg' h ρ _ w h2 (Went.refl hh) h3
omit hr in
theorem wrote_wp {k : T AV → AH → R} {next : Act → World → Prop} {Q : Exit → Act → World → Prop} (h1 : Wrote P ρ base h w nt k r a o) (hk : Kont false base ρ h w nt k r next) : o.wp P a w next Q := by
  obtain ⟨v, w', hrun, rg', h', ρ', h2, h3, h4, h5, h6, h7⟩ := h1
  have := hk rg' h' ρ' _ w' h2 ⟨h3, h4, h5, h7, fun e => by cases e⟩ h6
  unfold Oper.wp
  rcases hrun with hrun | ⟨hrun, rfl⟩ <;> (rw [hrun]; exact this)
theorem enter_wp {f : Nat} {l : AV} {k : T AV → AH → R} {next : Act → World → Prop} {Q : Exit → Act → World → Prop} (hrun : (execOp a.eval o).run P w = .ok (.enter f (concL ρ l).toArray) w)
    (hc : Calls P f (concL ρ l).toArray w (Came false base ρ h w (fun v h => setR nt rg o.dst v fun rg => k rg h) r)) (hk : Kont false base ρ h w nt k r next) : o.wp P a w next Q := by
  unfold Oper.wp
  rw [hrun]
  refine Calls.mono hc fun e w' he => ?_
  obtain ⟨v, h', ρ', h1, rfl, h2, h3⟩ := he
  obtain ⟨rg', h4, h5⟩ := setR_some h1 (hr.ext h3.1 h3.2.1) h2
  exact hk rg' h' ρ' _ w' h4 h3 h5
include hh
theorem gCall_wp {call : Caller} {c : Call} {k : T AV → AH → R} {next : Act → World → Prop} {Q : Exit → Act → World → Prop} (hcall : ∀ f, CallWord P false f (call f)) (h1 : gCall P nt call rg h o.dst k c = some r) (ho : o.op = .call c)
    (hk : Kont false base ρ h w nt k r next) : o.wp P a w next Q := by
  unfold gCall at h1
  cases hc : c.callee with
  | value f =>
    rw [hc] at h1
    obtain ⟨fn, u, h2, h3, h4⟩ := value_run (P := P) hr h1 ho hc
    obtain ⟨h5, h6⟩ := hcall fn u h _ r h2 ρ base w hh h3
    exact enter_wp hr (h4 w h5) h6 hk
  | invoke x name =>
    rw [hc] at h1
    obtain ⟨fn, u, h2, h3, h4⟩ := invoke_run (P := P) hr h1 ho hc
    obtain ⟨h5, h6⟩ := hcall fn u h _ r h2 ρ base w hh h3
    exact enter_wp hr (h4 w h5) h6 hk
  | builtin b =>
    rw [hc] at h1
    have h2 : Bool.rec (motive := fun _ => R) (Bool.rec (motive := fun _ => R) (when (isAppend b) (opt (arg2 c.args.toList) fun xs => opt (arg2 c.argTypes.toList) fun ts => wAppend P nt rg h o.dst k ts.1 ts.2 xs.1 xs.2))
        (opt (arg2 c.args.toList) fun xs => pMin rg (fun v => setR nt rg o.dst v fun rg => k rg h) xs.1 xs.2) (isMin b))
      (opt (arg1 c.args.toList) fun x => opt (arg1 c.argTypes.toList) fun t => pLen P rg (fun v => setR nt rg o.dst v fun rg => k rg h) x t) (isLen b) = some r := h1
    cases hb : isLen b with
    | true =>
      rw [hb] at h2
      have hb' : b = .len := by cases b <;> first | rfl | cases hb
      subst hb'
      obtain ⟨x, hx, h3⟩ := opt_some h2
      obtain ⟨t, ht, h4⟩ := opt_some h3
      have hx' : c.args = #[x] := by
        unfold arg1 at hx; split at hx
        · rename_i y e; cases hx; exact Array.ext' e
        · cases hx
      have ht' : c.argTypes = #[t] := by
        unfold arg1 at ht; split at ht
        · rename_i y e; cases ht; exact Array.ext' e
        · cases ht
      obtain ⟨v, h5, h6⟩ := pLen_some hr h4 ho hc hx' ht'
      exact flat_wp hr hh h5 h6 hk
    | false =>
      rw [hb] at h2
      cases hmn : isMin b with
      | true =>
        rw [hmn] at h2
        have hb' : b = .min := by cases b <;> first | rfl | cases hmn
        subst hb'
        obtain ⟨xs, hx, h4⟩ := opt_some h2
        have hx' : c.args = #[xs.1, xs.2] := by
          unfold arg2 at hx; split at hx
          · rename_i y z e; cases hx; exact Array.ext' e
          · cases hx
        obtain ⟨v, h5, h6⟩ := pMin_some (P := P) (w := w) hr h4 ho hc hx'
        exact flat_wp hr hh h5 h6 hk
      | false =>
        rw [hmn] at h2
        obtain ⟨ha, h3⟩ := when_some h2
        have hb' : b = .append := by cases b <;> first | rfl | cases ha
        subst hb'
        obtain ⟨xs, hx, h4⟩ := opt_some h3
        obtain ⟨ts, ht, h5⟩ := opt_some h4
        have hx' : c.args = #[xs.1, xs.2] := by
          unfold arg2 at hx; split at hx
          · rename_i y z e; cases hx; exact Array.ext' e
          · cases hx
        have ht' : c.argTypes = #[ts.1, ts.2] := by
          unfold arg2 at ht; split at ht
          · rename_i y z e; cases ht; exact Array.ext' e
          · cases ht
        exact wrote_wp (wAppend_some hr hh h5 ho hc hx' ht') hk
theorem opGo_wp {call : Caller} {k : T AV → AH → R} {next : Act → World → Prop} {Q : Exit → Act → World → Prop} (hcall : ∀ f, CallWord P false f (call f)) (h1 : opGo P nt call rg h o.dst k o.op = some r)
    (hk : Kont false base ρ h w nt k r next) : o.wp P a w next Q := by
  cases ho : o.op with
  | move x => rw [ho] at h1; obtain ⟨v, h2, h3⟩ := move_some (P := P) (w := w) hr h1 (.inl ho); exact flat_wp hr hh h2 h3 hk
  | assign x => rw [ho] at h1; obtain ⟨v, h2, h3⟩ := move_some (P := P) (w := w) hr h1 (.inr ho); exact flat_wp hr hh h2 h3 hk
  | pick c x y => rw [ho] at h1; obtain ⟨v, h2, h3⟩ := pPick_some (P := P) (w := w) hr h1 ho; exact flat_wp hr hh h2 h3 hk
  | alloc t => rw [ho] at h1; exact wrote_wp (wAlloc_some hr hh h1 ho) hk
  | box t x => rw [ho] at h1; exact wrote_wp (wBox_some hr hh h1 ho) hk
  | build t ps => rw [ho] at h1; obtain ⟨v, h2, h3⟩ := pBuild_some (P := P) (w := w) hr (show pBuild P rg (fun v => setR nt rg o.dst v fun rg => k rg h) t ps = some r from h1) ho; exact flat_wp hr hh h2 h3 hk
  | buildSlice t n ps => rw [ho] at h1; exact wrote_wp (wBuild_some hr hh h1 ho) hk
  | load t x => rw [ho] at h1; obtain ⟨v, h2, h3⟩ := load_some hr hh rfl (show loadV P rg h t x (fun v => setR nt rg o.dst v fun rg => k rg h) = some r from h1) ho; exact flat_wp hr hh h2 h3 hk
  | store t x y => rw [ho] at h1; exact wrote_wp (wStore_some hr hh h1 ho) hk
  | nilCheck x => rw [ho] at h1; obtain ⟨v, h2, h3⟩ := pNil_some (P := P) (w := w) hr h1 ho; exact flat_wp hr hh h2 h3 hk
  | binOp op xt x y yt => rw [ho] at h1; obtain ⟨v, h2, h3⟩ := pBin_some (P := P) (w := w) hr h1 ho; exact flat_wp hr hh h2 h3 hk
  | unOp op t x => rw [ho] at h1; obtain ⟨v, h2, h3⟩ := pNot_some (P := P) (w := w) hr h1 ho; exact flat_wp hr hh h2 h3 hk
  | convert s d x =>
    rw [ho] at h1
    rcases wConv_some hr hh (show wConv P nt rg h o.dst k s d x = some r from h1) ho with ⟨v, h2, h3⟩ | h2
    · exact flat_wp hr hh h2 h3 hk
    · exact wrote_wp h2 hk
  | insert t m x y => rw [ho] at h1; exact wrote_wp (wInsert_some hr hh (show wInsert P nt rg h o.dst k t m x y = some r from h1) ho) hk
  | makeMap t x => rw [ho] at h1; exact wrote_wp (wMap_some hr hh (show wMap P nt rg h o.dst k t x = some r from h1) ho) hk
  | lookup t m x c =>
    rw [ho] at h1
    obtain ⟨v, h2, h3, h4⟩ := wLookup_some (P := P) (w := w) hr hh (show wLookup P nt rg h o.dst k t m x c = some r from h1) ho
    obtain ⟨rg', h5, h6⟩ := setR_some h2 hr h3
    unfold Oper.wp
    rw [h4]
    exact hk rg' h ρ _ w h5 (Went.refl hh) h6
  | index t x ix => rw [ho] at h1; obtain ⟨v, h2, h3⟩ := pIdx_some (P := P) (w := w) hr (show pIdx P rg (fun v => setR nt rg o.dst v fun rg => k rg h) t x ix = some r from h1) ho; exact flat_wp hr hh h2 h3 hk
  | slice t x lo hi mx =>
    rw [ho] at h1
    cases mx with
    | some y => cases h1
    | none => obtain ⟨v, h2, h3⟩ := pSub_some (P := P) (w := w) hr (show pSub P rg (fun v => setR nt rg o.dst v fun rg => k rg h) t x lo hi = some r from h1) ho; exact flat_wp hr hh h2 h3 hk
  | makeInterface t x => rw [ho] at h1; obtain ⟨v, h2, h3⟩ := pIface_some (P := P) (w := w) hr (show pIface P rg (fun v => setR nt rg o.dst v fun rg => k rg h) t x = some r from h1) ho; exact flat_wp hr hh h2 h3 hk
  | makeFunc fn x y => rw [ho] at h1; obtain ⟨v, h2, h3⟩ := pFunc_some (P := P) (w := w) hr (show pFunc rg (fun v => setR nt rg o.dst v fun rg => k rg h) fn x y = some r from h1) ho; exact flat_wp hr hh h2 h3 hk
  | makeSlice t l c => rw [ho] at h1; exact wrote_wp (wMake_some hr hh h1 ho) hk
  | fieldAddr s x f => rw [ho] at h1; obtain ⟨v, h2, h3⟩ := pField_some (P := P) (w := w) hr (show pField P rg (fun v => setR nt rg o.dst v fun rg => k rg h) s x f = some r from h1) ho; exact flat_wp hr hh h2 h3 hk
  | indexAddr t x ix => rw [ho] at h1; obtain ⟨v, h2, h3⟩ := pIndex_some (P := P) (w := w) hr (show pIndex P rg (fun v => setR nt rg o.dst v fun rg => k rg h) t x ix = some r from h1) ho; exact flat_wp hr hh h2 h3 hk
  | range t x => rw [ho] at h1; exact wrote_wp (wRange_some hr hh h1 ho) hk
  | next it b => rw [ho] at h1; exact wrote_wp (wNext_some hr hh h1 ho) hk
  | extract x ix => rw [ho] at h1; obtain ⟨v, h2, h3⟩ := pExt_some (P := P) (w := w) hr h1 ho; exact flat_wp hr hh h2 h3 hk
  | call c => rw [ho] at h1; exact gCall_wp hr hh hcall h1 ho hk
  | _ => rw [ho] at h1; cases h1
end
theorem Kont.after {q : Bool} {base nt : Nat} {ρ ρ' : Env} {h h' : AH} {w w' : World} {k : T AV → AH → R} {r : AV × AH} {next : Act → World → Prop} (hk : Kont q base ρ h w nt k r next) (hg : Went q base ρ h w ρ' h' w') :
    Kont q base ρ' h' w' nt k r next := fun rg'' h'' ρ'' a'' w'' h1 h2 h3 => hk rg'' h'' ρ'' a'' w'' h1 (hg.trans h2) h3
theorem execOps_wp {P : Program} {nt : Nat} {call : Caller} {ops : Array Oper} {r : AV × AH} {base : Nat} {Q : Exit → Act → World → Prop} (hcall : ∀ f, CallWord P false f (call f)) :
    ∀ (l : List Oper) (ρ : Env) (rg : T AV) (h : AH) (a : Act) (w : World) (k : T AV → AH → R), RR ρ h.next nt rg a → HR ρ base h w → execOps P nt call ops l rg h k = some r → Kont false base ρ h w nt k r (Q .normal) → wpList P ops Q l a w := by
  intro l
  induction l with
  | nil => intro ρ rg h a w k hr hh h1 hk; exact hk rg h ρ a w h1 (Went.refl hh) hr
  | cons o l ih =>
    intro ρ rg h a w k hr hh h1 hk
    have h2 := want_some hr (show want ops rg o.guard (opGo P nt call rg h o.dst (fun rg h => execOps P nt call ops l rg h k) o.op) (setR nt rg o.dst (.tu .e) fun rg => execOps P nt call ops l rg h k) = some r from h1)
    show if Region.wanted o (yielded ops a.tmps) then o.wp P a w (wpList P ops Q l) Q ∨ (o.asks P a w ∧ LetsOut Q) else wpList P ops Q l (a.put o.dst undef) w
    split at h2
    · rename_i hw
      rw [if_pos hw]
      exact .inl (opGo_wp hr hh hcall h2 fun rg' h' ρ' a' w' h3 h4 h5 => ih ρ' rg' h' a' w' k h5 h4.2.2.1 h3 (hk.after h4))
    · rename_i hw
      rw [if_neg hw]
      obtain ⟨rg', h3, h4⟩ := setR_some h2 hr (v := .tu .e) trivial
      exact ih ρ rg' h _ w k h4 hh h3 hk
end Go.Proofs.YtcnallabiffemaaGreatDoor.Vm
