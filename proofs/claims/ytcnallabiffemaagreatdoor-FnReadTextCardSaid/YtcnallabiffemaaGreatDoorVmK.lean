/- The abstract machine's rows of operations that write nothing, in whatever order: sound. Conditions: the callee words are sound. -/
import Derived.Test.YtcnallabiffemaaGreatDoorVmJ
namespace Go.Proofs.YtcnallabiffemaaGreatDoor.Vm
open Go Go.RowKit

theorem went_drewN {q : Bool} {base : Nat} {ρ : Env} {h : AH} {w : World} (hh : HR ρ base h w) (m : Nat) : Went q base ρ h w ρ h (w.drewN m) :=
  ⟨Ext.refl _ _, Nat.le_refl _, hh.heap rfl, ⟨rfl, rfl, rfl, Nat.le_refl _, fun _ _ => rfl⟩, fun _ => ⟨rfl, rfl, m, rfl⟩⟩
def KontQ (ρ : Env) (n nt : Nat) (k : T AV → R) (r : AV × AH) (next : Act → Prop) : Prop := ∀ rg' a', k rg' = some r → RR ρ n nt rg' a' → next a'
section
variable {P : Program} {ρ : Env} {nt : Nat} {rg : T AV} {a : Act} {w : World} {r : AV × AH} {o : Oper} {base : Nat} {h : AH} (hr : RR ρ h.next nt rg a) (hh : HR ρ base h w)
include hr
/-- Either a value in the world as it is, or a call. -/
def Calm (P : Program) (ρ : Env) (nt : Nat) (call : Caller) (rg : T AV) (h : AH) (w : World) (a : Act) (o : Oper) (k : T AV → R) (r : AV × AH) : Prop :=
  (∃ v, setR nt rg o.dst v k = some r ∧ Flat P ρ h.next w a o v) ∨
  ∃ f u, qRun nt call rg h o.dst f u k = some r ∧ ok h.next u ∧ ∀ w' : World, (∃ g b, P.funcs[f]? = some g ∧ noNG g = true ∧ g.body = some b) → (execOp a.eval o).run P w' = .ok (.enter f (concL ρ u).toArray) w'
theorem qCall_calm {call : Caller} {c : Call} {k : T AV → R} (h1 : qCall P nt call rg h o.dst k c = some r) (ho : o.op = .call c) : Calm P ρ nt call rg h w a o k r := by
  unfold qCall at h1
  cases hc : c.callee with
  | value f =>
    rw [hc] at h1
    obtain ⟨fn, u, h2, h3, h4⟩ := value_run (P := P) hr h1 ho hc
    exact .inr ⟨fn, u, h2, h3, h4⟩
  | invoke x name =>
    rw [hc] at h1
    obtain ⟨fn, u, h2, h3, h4⟩ := invoke_run (P := P) hr h1 ho hc
    exact .inr ⟨fn, u, h2, h3, h4⟩
  | builtin b =>
    rw [hc] at h1
    obtain ⟨hb, h2⟩ := when_some (show when (isLen b) (opt (arg1 c.args.toList) fun x => opt (arg1 c.argTypes.toList) fun t => pLen P rg (fun v => setR nt rg o.dst v k) x t) = some r from h1)
    have hb' : b = .len := by cases b <;> first | rfl | cases hb
    subst hb'
    obtain ⟨x, hx, h3⟩ := opt_some h2
    obtain ⟨t, ht, h4⟩ := opt_some h3
    have hx' : c.args = #[x] := by
      unfold arg1 at hx; split at hx
      · rename_i y e; cases hx; exact Array.ext' e
      · cases hx
    have ht' : c.argTypes = #[t] := by
      unfold arg1 at ht; split at ht
      · rename_i y e; cases ht; exact Array.ext' e
      · cases ht
    exact .inl (pLen_some hr h4 ho hc hx' ht')
include hh
theorem qGo_calm {call : Caller} {k : T AV → R} (h1 : qGo P nt call rg h o.dst k o.op = some r) : Calm P ρ nt call rg h w a o k r := by
  cases ho : o.op with
  | move x => rw [ho] at h1; exact .inl (move_some (P := P) (w := w) hr h1 (.inl ho))
  | assign x => rw [ho] at h1; exact .inl (move_some (P := P) (w := w) hr h1 (.inr ho))
  | pick c x y => rw [ho] at h1; exact .inl (pPick_some (P := P) (w := w) hr h1 ho)
  | build t ps => rw [ho] at h1; exact .inl (pBuild_some (P := P) (w := w) hr (show pBuild P rg (fun v => setR nt rg o.dst v k) t ps = some r from h1) ho)
  | load t x => rw [ho] at h1; exact .inl (load_some hr hh rfl h1 ho)
  | nilCheck x => rw [ho] at h1; exact .inl (pNil_some (P := P) (w := w) hr h1 ho)
  | binOp op xt x y yt => rw [ho] at h1; exact .inl (pBin_some (P := P) (w := w) hr h1 ho)
  | unOp op t x => rw [ho] at h1; exact .inl (pNot_some (P := P) (w := w) hr h1 ho)
  | convert s d x => rw [ho] at h1; exact .inl (pConv_some (P := P) (w := w) hr h1 ho)
  | makeInterface t x => rw [ho] at h1; exact .inl (pIface_some (P := P) (w := w) hr (show pIface P rg (fun v => setR nt rg o.dst v k) t x = some r from h1) ho)
  | makeFunc fn x y => rw [ho] at h1; exact .inl (pFunc_some (P := P) (w := w) hr (show pFunc rg (fun v => setR nt rg o.dst v k) fn x y = some r from h1) ho)
  | fieldAddr s x f => rw [ho] at h1; exact .inl (pField_some (P := P) (w := w) hr (show pField P rg (fun v => setR nt rg o.dst v k) s x f = some r from h1) ho)
  | indexAddr t x ix => rw [ho] at h1; exact .inl (pIndex_some (P := P) (w := w) hr (show pIndex P rg (fun v => setR nt rg o.dst v k) t x ix = some r from h1) ho)
  | index t x ix => rw [ho] at h1; exact .inl (pIdx_some (P := P) (w := w) hr (show pIdx P rg (fun v => setR nt rg o.dst v k) t x ix = some r from h1) ho)
  | extract x ix => rw [ho] at h1; exact .inl (pExt_some (P := P) (w := w) hr h1 ho)
  | call c => rw [ho] at h1; exact qCall_calm hr h1 ho
  | _ => rw [ho] at h1; cases h1
theorem qGo_quiet {call : Caller} {k : T AV → R} {next : Act → Prop} (hcall : ∀ f, CallWord P true f (call f)) (h1 : qGo P nt call rg h o.dst k o.op = some r) (hk : KontQ ρ h.next nt k r next) :
    o.quiet P a (fun w' => ∃ m, w' = w.drewN m) next := by
  rcases qGo_calm hr hh h1 with ⟨v, h2, h3⟩ | ⟨f, u, h2, h3, h4⟩
  · obtain ⟨rg', h5, h6⟩ := setR_some h2 hr h3.1
    refine ⟨_, fun w' hw' => ?_, hk _ _ h5 h6⟩
    obtain ⟨m, rfl⟩ := hw'
    unfold Oper.quietAt
    rw [h3.2 (w.drewN m) (fun _ => rfl)]
    exact ⟨rfl, rfl⟩
  · obtain ⟨⟨v, h'⟩, h5, h6⟩ := opt_some h2
    have key : ∀ m, (∃ g b, P.funcs[f]? = some g ∧ noNG g = true ∧ g.body = some b) ∧ Calls P f (concL ρ u).toArray (w.drewN m) (Came true base ρ h (w.drewN m) (fun v h => some (v, h)) (v, h')) := fun m =>
      hcall f u h _ _ h5 ρ base (w.drewN m) (hh.heap rfl) h3
    have hv : ok h.next v := by
      obtain ⟨e, w', fr, ⟨v', h'', ρ', h7, _, h8, h9⟩, _⟩ := (key 0).2 []
      cases h7
      obtain ⟨rfl, rfl, _⟩ := h9.2.2.2.2 rfl
      exact h8
    obtain ⟨rg', h7, h8⟩ := setR_some h6 hr hv
    refine ⟨_, fun w' hw' => ?_, hk _ _ h7 h8⟩
    obtain ⟨m, rfl⟩ := hw'
    unfold Oper.quietAt
    rw [h4 _ (key m).1]
    refine ⟨rfl, Calls.mono (key m).2 fun e w'' he => ?_⟩
    obtain ⟨v', h'', ρ', h9, rfl, _, h10⟩ := he
    cases h9
    obtain ⟨rfl, rfl, m', rfl⟩ := h10.2.2.2.2 rfl
    exact ⟨rfl, m + m', by simp [World.drewN, Nat.add_assoc]⟩
theorem qGo_still {k : T AV → R} {next : Act → Prop} (h1 : qGo P nt (fun _ _ _ _ => none) rg h o.dst k o.op = some r) (hk : KontQ ρ h.next nt k r next) : o.still P a w next := by
  rcases qGo_calm hr hh h1 with ⟨v, h2, h3⟩ | ⟨f, u, h2, h3, h4⟩
  · obtain ⟨rg', h5, h6⟩ := setR_some h2 hr h3.1
    unfold Oper.still
    rw [h3.2 w (fun _ => rfl)]
    exact ⟨rfl, hk _ _ h5 h6⟩
  · cases h2
end
section
variable {P : Program} {nt : Nat} {ops : Array Oper} {r : AV × AH} {base : Nat} {ρ : Env} {h : AH} {w : World} (hh : HR ρ base h w)
include hh
theorem execQ_quiet {call : Caller} {Q : Act → Prop} (hcall : ∀ f, CallWord P true f (call f)) :
    ∀ (l : List Oper) (rg : T AV) (a : Act) (k : T AV → R), RR ρ h.next nt rg a → execQ P nt call ops h l rg k = some r → KontQ ρ h.next nt k r Q → wpQuiet P ops (fun w' => ∃ m, w' = w.drewN m) Q l a := by
  intro l
  induction l with
  | nil => intro rg a k hr h1 hk; exact hk rg a h1 hr
  | cons o l ih =>
    intro rg a k hr h1 hk
    have h2 := want_some hr (show want ops rg o.guard (qGo P nt call rg h o.dst (fun rg => execQ P nt call ops h l rg k) o.op) (setR nt rg o.dst (.tu .e) fun rg => execQ P nt call ops h l rg k) = some r from h1)
    show if Region.wanted o (yielded ops a.tmps) then _ else _
    split at h2
    · rename_i hw
      rw [if_pos hw]
      exact qGo_quiet hr hh hcall h2 fun rg' a' h3 h4 => ih rg' a' k h4 h3 hk
    · rename_i hw
      rw [if_neg hw]
      obtain ⟨rg', h3, h4⟩ := setR_some h2 hr (v := .tu .e) trivial
      exact ih rg' _ k h4 h3 hk
theorem execQ_still {Q : Act → Prop} :
    ∀ (l : List Oper) (rg : T AV) (a : Act) (k : T AV → R), RR ρ h.next nt rg a → execQ P nt (fun _ _ _ _ => none) ops h l rg k = some r → KontQ ρ h.next nt k r Q → wpStill P ops w Q l a := by
  intro l
  induction l with
  | nil => intro rg a k hr h1 hk; exact hk rg a h1 hr
  | cons o l ih =>
    intro rg a k hr h1 hk
    have h2 := want_some hr (show want ops rg o.guard (qGo P nt (fun _ _ _ _ => none) rg h o.dst (fun rg => execQ P nt (fun _ _ _ _ => none) ops h l rg k) o.op) (setR nt rg o.dst (.tu .e) fun rg => execQ P nt (fun _ _ _ _ => none) ops h l rg k) = some r from h1)
    show if Region.wanted o (yielded ops a.tmps) then _ else _
    split at h2
    · rename_i hw
      rw [if_pos hw]
      exact qGo_still hr hh h2 fun rg' a' h3 h4 => ih rg' a' k h4 h3 hk
    · rename_i hw
      rw [if_neg hw]
      obtain ⟨rg', h3, h4⟩ := setR_some h2 hr (v := .tu .e) trivial
      exact ih rg' _ k h4 h3 hk
end

/-! ### What is taken first -/
theorem takes_any {P : Program} {nt : Nat} {ops : Array Oper} {r : AV × AH} {base : Nat} {ρ : Env} {h : AH} {w : World} (hh : HR ρ base h w) {Q : Exit → Act → World → Prop} (hq : ∀ c a d v w, Q (.panic c) (Act.put a d v) w → Q (.panic c) a w)
    (hsel : Region.noSelect ops = true) :
    ∀ (l : List Oper) (k : Nat) (listed : Array Bool) (rg : T AV) (a : Act) (kont : T AV → R), (∀ j, j < l.length → l[j]? = ops[k + j]?) → k + l.length < ops.size → l.any isLoad = false → takesGo ops l.length k listed = true → RR ρ h.next nt rg a →
      execQ P nt (fun _ _ _ _ => none) ops h l rg kont = some r →
      (∀ rg' a', kont rg' = some r → RR ρ h.next nt rg' a' → wpList P ops Q (ops.toList.drop (k + l.length)) a' w) → wpAny P .any ops Q (ops.size - k) listed a w := by
  intro l
  induction l with
  | nil =>
    intro k listed rg a kont _ hlt _ hB hr h1 hk
    have h2 := hk rg a h1 hr
    have := wpAny_of_seq (md := .any) (P := P) (ops := ops) (Q' := Q) (ops.toList.drop k) k listed a w (fun j => by simp [List.getElem?_drop]) (by simpa [takesGo] using hB) (by simpa using h2)
    simpa using this
  | cons o l ih =>
    intro k listed rg a kont hl hlt hnl hB hr h1 hk
    simp only [List.length_cons] at hlt hB
    simp only [takesGo, Bool.and_eq_true] at hB
    obtain ⟨⟨hrd, hfr⟩, hB'⟩ := hB
    simp only [List.any_cons, Bool.or_eq_false_iff] at hnl
    have hok : ops[k]? = some o := by simpa using (hl 0 (by simp)).symm
    have h2 := want_some hr (show want ops rg o.guard (qGo P nt (fun _ _ _ _ => none) rg h o.dst (fun rg => execQ P nt (fun _ _ _ _ => none) ops h l rg kont) o.op) (setR nt rg o.dst (.tu .e) fun rg => execQ P nt (fun _ _ _ _ => none) ops h l rg kont) = some r from h1)
    have next : ∀ rg' a', execQ P nt (fun _ _ _ _ => none) ops h l rg' kont = some r → RR ρ h.next nt rg' a' → wpAny P .any ops Q (ops.size - (k + 1)) (listed.setIfInBounds k true) a' w := fun rg' a' h3 h4 =>
      ih (k + 1) _ rg' a' kont (fun j hj => by have := hl (j + 1) (by simp; omega); simpa [Nat.add_assoc, Nat.add_comm 1 j] using this) (by omega) hnl.2 hB' h4 h3 (fun rg'' a'' h5 h6 => by
        have := hk rg'' a'' h5 h6
        simpa [Nat.add_assoc, Nat.add_comm 1 l.length] using this)
    rw [show ops.size - k = (ops.size - (k + 1)) + 1 by omega]
    split at h2
    · rename_i hw
      rcases qGo_calm (w := w) hr hh h2 with ⟨v, h3, h4⟩ | ⟨f, u, h3, _⟩
      · obtain ⟨rg', h5, h6⟩ := setR_some h3 hr h4.1
        exact wpAny_take hok hsel hfr hrd (fun c a w hp => hq c a _ _ w hp) (.inl ⟨hw, fun w' => h4.2 w' (fun e => by rw [hnl.1] at e; cases e)⟩) (next rg' _ h5 h6)
      · cases h3
    · rename_i hw
      obtain ⟨rg', h3, h4⟩ := setR_some h2 hr (v := .tu .e) trivial
      exact wpAny_take (v := undef) hok hsel hfr hrd (fun c a w hp => hq c a _ _ w hp) (.inr ⟨by simpa using hw, rfl⟩) (next rg' _ h3 h4)
end Go.Proofs.YtcnallabiffemaaGreatDoor.Vm
