/- The abstract machine's code and calls: sound. Conditions: the program takes regions in mixed orders; the word for function 127 is sound. -/
import Derived.Test.YtcnallabiffemaaGreatDoorVmK
namespace Go.Proofs.YtcnallabiffemaaGreatDoor.Vm
open Go Go.RowKit

def exitOf : AX → Exit
  | .normal => .normal
  | .exit id => .exit id
  | .ret => .ret
def KontX (q : Bool) (base : Nat) (ρ : Env) (h : AH) (w : World) (nt : Nat) (k : AX → T AV → AH → R) (r : AV × AH) (Q : Exit → Act → World → Prop) : Prop :=
  ∀ ax rg' h' ρ' a' w', k ax rg' h' = some r → Went q base ρ h w ρ' h' w' → RR ρ' h'.next nt rg' a' → Q (exitOf ax) a' w'
def Sound (P : Program) (ex : Runner) (n : Nat) : Prop :=
  ∀ q nt c rg h k r, ex q nt c rg h k = some r → ∀ ρ base a w, HR ρ base h w → RR ρ h.next nt rg a → ∀ Q, KontX q base ρ h w nt k r Q →
    c.wp P Q a w ∧ ∀ c', c = .loop c' → Code.rounds P c' Q n a w
structure Good (P : Program) : Prop where
  mixed : P.follows .mixedOrders = true
  fn41 : CallWord P false 41 o41
  fn127 : ∀ call, CallWord P false 46 call → CallWord P false 127 (o127 call)

/-! ### Arguments and results -/
theorem regsL_some {ρ : Env} {n : Nat} {r : AV × AH} : ∀ (l : AV) (cs : T AV) (off : Nat) (k : T AV → Nat → R), regsL l cs off k = some r → ok n l →
    ∃ cs' m, k cs' m = some r ∧ m = off + (concL ρ l).length ∧ ∀ j v, T.get cs' j = some v → (off ≤ j ∧ j < m ∧ ok n v ∧ (concL ρ l)[j - off]? = some (conc ρ v)) ∨ T.get cs j = some v := by
  intro l
  induction l with
  | e => intro cs off k h _; exact ⟨cs, off, h, by simp [concL], fun j v hv => .inr hv⟩
  | c x l _ ih =>
    intro cs off k h hl
    obtain ⟨cs1, h2, hset⟩ := setK_some (show T.setK cs off x (fun cs => forceN (Nat.succ off) fun off => regsL l cs off k) = some r from h)
    rw [forceN_eq] at h2
    obtain ⟨cs', m, h3, h4, h6⟩ := ih cs1 (off + 1) k h2 hl.2
    refine ⟨cs', m, h3, by simp [concL]; omega, fun j v hv => ?_⟩
    rcases h6 j v hv with ⟨a1, a2, a3, a5⟩ | a2
    · refine .inl ⟨by omega, a2, a3, ?_⟩
      rw [show j - off = (j - (off + 1)) + 1 by omega]
      simpa [concL] using a5
    · rw [hset] at a2
      by_cases ej : j = off
      · rw [if_pos ej] at a2
        cases a2
        refine .inl ⟨by omega, by omega, hl.1, ?_⟩
        rw [show j - off = 0 by omega]
        simp [concL]
      · rw [if_neg ej] at a2
        exact .inr a2
  | _ => intro cs off k h _; cases h
def resF (tmps : Array Value) : ResultVar → Sem Value
  | .tmp t => pure (tmps.getD t undef)
  | .cell x t => do loadVar t (← asAddr (tmps.getD x undef))
theorem outOf_some {P : Program} {ρ : Env} {nt : Nat} {rg : T AV} {a : Act} {base : Nat} {h : AH} {w : World} {r : AV × AH} (hr : RR ρ h.next nt rg a) (hh : HR ρ base h w) : ∀ (l : List ResultVar) (k : AV → R), outOf P rg h l k = some r →
    ∃ u, k u = some r ∧ ok h.next u ∧ (l.mapM (resF a.tmps)).run P w = .ok (concL ρ u) w := by
  intro l
  induction l with
  | nil => intro k h1; exact ⟨.e, h1, trivial, by simp [concL]⟩
  | cons x l ih =>
    intro k h1
    cases x with
    | tmp t =>
      obtain ⟨v, h2, h3⟩ := opt_some (show opt (T.get rg t) (fun v => outOf P rg h l fun l => k (.c v l)) = some r from h1)
      obtain ⟨u, h4, h5, h6⟩ := ih _ h3
      obtain ⟨_, h7, h8⟩ := hr.slot t v h2
      have h9 : (resF a.tmps (.tmp t)).run P w = .ok (conc ρ v) w := by simp [resF, h8]
      exact ⟨_, h4, ⟨h7, h5⟩, by rw [List.mapM_cons]; simp only [Sem.run_bind, h9, Result.andThen_ok, h6, Sem.run_pure, concL]⟩
    | cell x t =>
      obtain ⟨v, h2, h3, ad, h4, h5⟩ := loadV_some (k := fun v => outOf P rg h l fun l => k (.c v l)) hr hh rfl (show loadV P rg h t (.tmp x) _ = some r from h1)
      obtain ⟨u, h6, h7, h8⟩ := ih _ h2
      have h4' : a.tmps.getD x undef = .pointer (some ad) := h4
      have h9 : (resF a.tmps (.cell x t)).run P w = .ok (conc ρ v) w := by
        unfold resF
        simp only [h4', asAddr, Sem.run_bind, Sem.run_pure, Result.andThen_ok, h5 w rfl]
      exact ⟨_, h6, ⟨h3, h7⟩, by rw [List.mapM_cons]; simp only [Sem.run_bind, h9, Result.andThen_ok, h8, Sem.run_pure, concL]⟩
theorem outK_some {P : Program} {ρ : Env} {nt : Nat} {rg : T AV} {a : Act} {base : Nat} {h : AH} {w : World} {r : AV × AH} {fn : Func} {k : AV → AH → R} {e : AX} (hr : RR ρ h.next nt rg a) (hh : HR ρ base h w) (h1 : outK P fn.results k e rg h = some r) :
    (e = .normal ∨ e = .ret) ∧ ∃ v, k v h = some r ∧ ok h.next v ∧ (results fn a.tmps).run P w = .ok (conc ρ v) w := by
  have main : outOf P rg h fn.results.toList (fun l => outV l fun v => k v h) = some r → ∃ v, k v h = some r ∧ ok h.next v ∧ (results fn a.tmps).run P w = .ok (conc ρ v) w := fun h2 => by
    obtain ⟨u, h3, h4, h5⟩ := outOf_some hr hh _ _ h2
    have start : (results fn a.tmps).run P w = .ok (if h : (concL ρ u).toArray.size = 1 then (concL ρ u).toArray[0] else .tuple (concL ρ u).toArray) w := by
      show (do
        let vs ← fn.results.mapM (resF a.tmps)
        pure (if h : vs.size = 1 then vs[0] else .tuple vs) : Sem Value).run P w = _
      rw [Array.mapM_eq_mapM_toList]
      simp [h5]
    rw [start]
    rcases onL_some (show onL u (k (.tu .e) h) (fun x m => onL m (k x h) fun _ _ => k (.tu u) h) = some r from h3) with ⟨rfl, h6⟩ | ⟨x, m, rfl, h6⟩
    · exact ⟨_, h6, trivial, by simp [concL, conc]⟩
    · rcases onL_some h6 with ⟨rfl, h7⟩ | ⟨y, m', rfl, h7⟩
      · exact ⟨_, h7, h4.1, by simp [concL]⟩
      · exact ⟨_, h7, h4, by simp [concL, conc]⟩
  cases e with
  | normal => exact ⟨.inl rfl, main h1⟩
  | ret => exact ⟨.inr rfl, main h1⟩
  | exit id => cases h1

/-! ### Calls -/
theorem callIn_word {P : Program} {ex : Runner} {n : Nat} (hs : Sound P ex n) (q : Bool) (f : Nat) : CallWord P q f (callIn P ex q f) := by
  intro l h k r h1 ρ base w hh hl
  obtain ⟨fn, hf, h2⟩ := opt_some h1
  obtain ⟨c, hc, h3⟩ := opt_some (show opt fn.body _ = some r from h2)
  obtain ⟨hn, h4⟩ := when_some h3
  obtain ⟨rg, m, h5, h6, h7⟩ := regsL_some (ρ := ρ) (n := h.next) l _ 0 _ h4 hl
  obtain ⟨h8, h9⟩ := when_some h5
  have hle : m ≤ fn.ntmps := Nat.le_of_ble_eq_true h8
  refine ⟨⟨fn, c, hf, hn, hc⟩, calls_of_wp hf hc ?_⟩
  refine (hs q fn.ntmps c rg h _ r h9 ρ base _ w hh ⟨by simp; omega, rfl, fun t v hv => ?_⟩ _ fun ax rg' h' ρ' a' w' h10 h11 h12 => ?_).1
  · rcases h7 t v hv with ⟨_, b2, b3, b4⟩ | b
    · refine ⟨by omega, b3, ?_⟩
      have hlt : t < (concL ρ l).length := by omega
      simp only [Nat.sub_zero] at b4
      rw [Array.getElem?_append_left (by simpa using hlt)]
      simpa using b4
    · exact absurd (get_full b) (by simp)
  · obtain ⟨h13, v, h14, h15, h16⟩ := outK_some h12 h11.2.2.1 h10
    rcases h13 with rfl | rfl <;> exact ⟨h12.nodefer, _, h16, v, h', ρ', h14, rfl, h15, h11⟩
theorem callAt_word {P : Program} (hg : Good P) {ex : Runner} {n : Nat} (hs : Sound P ex n) (q : Bool) (f : Nat) : CallWord P q f (callAt P ex q f) := by
  intro l h k r h1
  have h2 : Bool.rec (motive := fun _ => R) (Bool.rec (motive := fun _ => R) (callIn P ex q f l h k) (when (!q) (o41 l h k)) (Nat.beq f 41)) (when (!q) (o127 (callIn P ex false 46) l h k)) (Nat.beq f 127) = some r := h1
  cases hb : Nat.beq f 127 with
  | false =>
    rw [hb] at h2
    cases hc : Nat.beq f 41 with
    | false =>
      rw [hc] at h2
      exact callIn_word hs q f l h k r h2
    | true =>
      rw [hc] at h2
      obtain ⟨h3, h4⟩ := when_some h2
      have hf : f = 41 := Nat.eq_of_beq_eq_true hc
      have hq : q = false := by simpa using h3
      subst hf hq
      exact hg.fn41 l h k r h4
  | true =>
    rw [hb] at h2
    obtain ⟨h3, h4⟩ := when_some h2
    have hf : f = 127 := Nat.eq_of_beq_eq_true hb
    have hq : q = false := by simpa using h3
    subst hf hq
    exact hg.fn127 _ (callIn_word hs false 46) l h k r h4

/-! ### Code -/
theorem wpList_of_quiet {P : Program} {ops : Array Oper} {C : World → Prop} {Q : Act → Prop} {Q' : Exit → Act → World → Prop} (hQ : ∀ a w, C w → Q a → Q' .normal a w) : ∀ (l : List Oper) (a : Act) (w : World), C w → wpQuiet P ops C Q l a → wpList P ops Q' l a w := by
  intro l
  induction l with
  | nil => intro a w hc h; exact hQ a w hc h
  | cons o l ih =>
    intro a w hc h
    have h' : if Region.wanted o (yielded ops a.tmps) then o.quiet P a C (wpQuiet P ops C Q l) else wpQuiet P ops C Q l (a.put o.dst undef) := h
    show if Region.wanted o (yielded ops a.tmps) then o.wp P a w (wpList P ops Q' l) Q' ∨ (o.asks P a w ∧ LetsOut Q') else wpList P ops Q' l (a.put o.dst undef) w
    split at h'
    · rename_i hw; rw [if_pos hw]; exact .inl (Oper.wp_of_quiet hc (fun a w' hc' hq => ih a w' hc' hq) h')
    · rename_i hw; rw [if_neg hw]; exact ih _ w hc h'
section
variable {P : Program} (hg : Good P) {ex : Runner} {n : Nat} (hs : Sound P ex n) {q : Bool} {nt : Nat} {rg : T AV} {h : AH} {k : AX → T AV → AH → R} {r : AV × AH} {ρ : Env} {base : Nat} {a : Act} {w : World} (hh : HR ρ base h w) (hr : RR ρ h.next nt rg a)
  {Q : Exit → Act → World → Prop} (hk : KontX q base ρ h w nt k r Q)
include hg hs hh hr hk
theorem rPlain_wp {ops : Array Oper} {id : Nat} (h1 : rPlain P ex q nt rg h k ops = some r) : (Code.region id ops false).wp P Q a w := by
  cases q with
  | false => exact wp_region_list (execOps_wp (callAt_word hg hs false) _ ρ rg h a w _ hr hh h1 fun rg' h' ρ' a' w' h2 h3 h4 => hk .normal rg' h' ρ' a' w' h2 h3 h4)
  | true =>
    have := execQ_quiet (Q := fun a' => ∀ w', (∃ m, w' = w.drewN m) → Q .normal a' w') hh (callAt_word hg hs true) ops.toList rg a _ hr h1 fun rg' a' h2 h3 w' hw' => by
      obtain ⟨m, rfl⟩ := hw'
      exact hk .normal rg' h ρ a' _ h2 (went_drewN hh m) h3
    exact wp_region_list (wpList_of_quiet (fun a w' hc hq => hq w' hc) _ _ _ ⟨0, rfl⟩ this)
theorem rDraw_wp {ops : Array Oper} {id : Nat} (h1 : rDraw P ex q nt rg h k ops = some r) : (Code.region id ops true).wp P Q a w := by
  have h2 : Bool.rec (motive := fun _ => R)
    (Bool.rec (motive := fun _ => R) (when (Region.lexB .any ops) (execQ P nt (callAt P ex true) ops h ops.toList rg fun rg => k .normal rg h))
      (when (!q) (when (takesB ops (firstM ops.toList)) (execQ P nt (fun _ _ _ _ => none) ops h (ops.toList.take (firstM ops.toList)) rg fun rg => execOps P nt (callAt P ex false) ops (ops.toList.drop (firstM ops.toList)) rg h fun rg h => k .normal rg h))) (ops.toList.any isMake))
    (when (!q) (when (Region.lexTailB .any ops (firstW ops.toList))
      (execQ P nt (fun _ _ _ _ => none) ops h (ops.toList.take (firstW ops.toList)) rg fun rg => execOps P nt (callAt P ex false) ops (ops.toList.drop (firstW ops.toList)) rg h fun rg h => k .normal rg h)))
    (ops.toList.any isWrite) = some r := h1
  cases hb : ops.toList.any isWrite with
  | false =>
   rw [hb] at h2
   cases hm : ops.toList.any isMake with
   | true =>
    rw [hm] at h2
    obtain ⟨hq, h3⟩ := when_some h2
    obtain ⟨hB, h4⟩ := when_some h3
    have hq' : q = false := by simpa using hq
    subst hq'
    have hd := went_drewN (q := false) hh 1
    simp only [takesB, Bool.and_eq_true, decide_eq_true_eq, Bool.not_eq_true'] at hB
    obtain ⟨⟨⟨hsel, hlt⟩, hnl⟩, hgo⟩ := hB
    have hlt' : firstM ops.toList < ops.toList.length := by simpa using hlt
    have hlen : (ops.toList.take (firstM ops.toList)).length = firstM ops.toList := by rw [List.length_take]; omega
    have key := takes_any (P := P) (nt := nt) (w := w.drewN 1) (Q := fun e a w => match e with | .normal => Q .normal a w | _ => False) hd.2.2.1 (fun c a d v w hp => hp) hsel (ops.toList.take (firstM ops.toList)) 0 (Array.replicate ops.size false) rg a _
      (fun j hj => by rw [hlen] at hj; simp [hj]) (by rw [hlen]; simpa using hlt) hnl (by rw [hlen]; exact hgo) hr h4 (fun rg' a' h5 h6 => by
        rw [hlen, Nat.zero_add]
        exact execOps_wp (callAt_word hg hs false) _ ρ rg' h a' _ _ h6 hd.2.2.1 h5 fun rg'' h'' ρ'' a'' w'' h7 h8 h9 => hk .normal rg'' h'' ρ'' a'' w'' h7 (hd.trans h8) h9)
    refine Code.wp_mono (Q := fun e a w => match e with | .normal => Q .normal a w | _ => False) (fun e a w hp => ?_) (wp_region_any hg.mixed key)
    cases e <;> first | exact hp | exact hp.elim
   | false =>
    rw [hm] at h2
    obtain ⟨hB, h3⟩ := when_some h2
    have := execQ_quiet (Q := fun a' => ∀ w', (∃ m, w' = w.drewN m) → Q .normal a' w') hh (callAt_word hg hs true) ops.toList rg a _ hr h3 fun rg' a' h2 h3 w' hw' => by
      obtain ⟨m, rfl⟩ := hw'
      exact hk .normal rg' h ρ a' _ h2 (went_drewN hh m) h3
    exact wp_region_quiet (C := fun w' => ∃ m, w' = w.drewN m) hg.mixed hB ⟨1, rfl⟩ this
  | true =>
    rw [hb] at h2
    obtain ⟨hq, h3⟩ := when_some h2
    obtain ⟨hB, h4⟩ := when_some h3
    have hq' : q = false := by simpa using hq
    subst hq'
    have hd := went_drewN (q := false) hh 1
    have := execQ_still (w := w.drewN 1) (P := P) (ops := ops) (Q := fun a' => wpList P ops Q (ops.toList.drop (firstW ops.toList)) a' (w.drewN 1)) hd.2.2.1 _ rg a _ hr h4 fun rg' a' h5 h6 =>
      execOps_wp (callAt_word hg hs false) _ ρ rg' h a' _ _ h6 hd.2.2.1 h5 fun rg'' h'' ρ'' a'' w'' h7 h8 h9 => hk .normal rg'' h'' ρ'' a'' w'' h7 (hd.trans h8) h9
    have e : ops = ops.toList.toArray := by simp
    rw [e]
    refine wp_region_still_tail (firstW ops.toList) hg.mixed (by rw [← e]; exact hB) ?_
    rw [← e]
    exact this
end
theorem step_wp {P : Program} (hg : Good P) {ex : Runner} {n : Nat} (hs : Sound P ex n) : Sound P (fun q nt c rg h k => codeStep P ex q nt rg h k c) (n + 1) := by
  intro q nt c rg h k r h1 ρ base a w hh hr Q hk
  cases c with
  | skip => exact ⟨wp_skip (hk .normal rg h ρ a w h1 (Went.refl hh) hr), fun c' e => by cases e⟩
  | label l => exact ⟨wp_label (hk .normal rg h ρ a w h1 (Went.refl hh) hr), fun c' e => by cases e⟩
  | ret => exact ⟨wp_ret (hk .ret rg h ρ a w h1 (Went.refl hh) hr), fun c' e => by cases e⟩
  | exit id => exact ⟨wp_exit (hk (.exit id) rg h ρ a w h1 (Went.refl hh) hr), fun c' e => by cases e⟩
  | region id ops draw =>
    refine ⟨?_, fun c' e => by cases e⟩
    cases draw with
    | false => exact rPlain_wp hg hs hh hr hk h1
    | true => exact rDraw_wp hg hs hh hr hk h1
  | seq x y =>
    refine ⟨wp_seq (hs q nt x rg h _ r h1 ρ base a w hh hr _ fun ax rg' h' ρ' a' w' h2 h3 h4 => ?_).1, fun c' e => by cases e⟩
    cases ax with
    | normal => exact (hs q nt y rg' h' k r h2 ρ' base a' w' h3.2.2.1 h4 Q fun ax rg'' h'' ρ'' a'' w'' h5 h6 h7 => hk ax rg'' h'' ρ'' a'' w'' h5 (h3.trans h6) h7).1
    | exit id => exact hk (.exit id) rg' h' ρ' a' w' h2 h3 h4
    | ret => exact hk .ret rg' h' ρ' a' w' h2 h3 h4
  | cond c x y =>
    refine ⟨?_, fun c' e => by cases e⟩
    obtain ⟨v, h2, _, h3⟩ := oe_some (show oe rg c (fun v => onB v fun t => Bool.rec (motive := fun _ => R) (ex q nt y rg h k) (ex q nt x rg h k) t) = some r from h1) hr
    obtain ⟨t, rfl, h4⟩ := onB_some h2
    cases t with
    | true => exact wp_cond_true h3 (hs q nt x rg h k r h4 ρ base a w hh hr Q hk).1
    | false => exact wp_cond_false h3 (hs q nt y rg h k r h4 ρ base a w hh hr Q hk).1
  | block id c =>
    refine ⟨wp_block (hs q nt c rg h _ r h1 ρ base a w hh hr _ fun ax rg' h' ρ' a' w' h2 h3 h4 => ?_).1, fun c' e => by cases e⟩
    cases ax with
    | normal => exact hk .normal rg' h' ρ' a' w' h2 h3 h4
    | exit i =>
      have h5 : Bool.rec (motive := fun _ => R) (k (.exit i) rg' h') (k .normal rg' h') (Nat.beq i id) = some r := h2
      show if i = id then Q .normal a' w' else Q (.exit i) a' w'
      cases hb : Nat.beq i id with
      | true => rw [hb] at h5; rw [if_pos (Nat.eq_of_beq_eq_true hb)]; exact hk .normal rg' h' ρ' a' w' h5 h3 h4
      | false => rw [hb] at h5; rw [if_neg (fun e => by rw [e, Nat.beq_refl] at hb; cases hb)]; exact hk (.exit i) rg' h' ρ' a' w' h5 h3 h4
    | ret => exact hk .ret rg' h' ρ' a' w' h2 h3 h4
  | loop c =>
    have rounds : Code.rounds P c Q (n + 1) a w := by
      rw [rounds_succ]
      refine (hs q nt c rg h _ r h1 ρ base a w hh hr _ fun ax rg' h' ρ' a' w' h2 h3 h4 => ?_).1
      cases ax with
      | normal => exact (hs q nt (.loop c) rg' h' k r h2 ρ' base a' w' h3.2.2.1 h4 Q fun ax rg'' h'' ρ'' a'' w'' h5 h6 h7 => hk ax rg'' h'' ρ'' a'' w'' h5 (h3.trans h6) h7).2 c rfl
      | exit id => exact hk (.exit id) rg' h' ρ' a' w' h2 h3 h4
      | ret => exact hk .ret rg' h' ρ' a' w' h2 h3 h4
    exact ⟨wp_loop_rounds (n + 1) rounds, fun c' e => by cases e; exact rounds⟩
  | _ => cases h1
theorem exec_sound {P : Program} (hg : Good P) : ∀ n, Sound P (exec P n) n := by
  intro n
  induction n with
  | zero => intro q nt c rg h k r h1; cases h1
  | succ n ih => exact step_wp hg ih
/-- A run that the abstract machine carried out is one of the real machine. -/
theorem run_calls {P : Program} (hg : Good P) {n f : Nat} {l : AV} {h : AH} {v : AV} {h' : AH} (h1 : run P n f l h = some (v, h')) {ρ : Env} {base : Nat} {w : World} (hh : HR ρ base h w) (hl : ok h.next l) :
    Calls P f (concL ρ l).toArray w fun e w' => ∃ ρ', e = .returned (conc ρ' v) ∧ ok h'.next v ∧ Ext ρ h.next ρ' ∧ HR ρ' base h' w' ∧ Below base w w' := by
  refine Calls.mono (callIn_word (exec_sound hg n) false f l h _ _ h1 ρ base w hh hl).2 fun e w' he => ?_
  obtain ⟨v', h'', ρ', h2, h3, h4, h5⟩ := he
  cases h2
  exact ⟨ρ', h3, h4, h5.1, h5.2.2.1, h5.2.2.2.1⟩
end Go.Proofs.YtcnallabiffemaaGreatDoor.Vm
