/- The abstract machine's equations, for runs with letters in them. Conditions: none; lemmas alone. -/
import Derived.Test.YtcnallabiffemaaGreatDoorVmN
namespace Go.Proofs.YtcnallabiffemaaGreatDoor.Vm
open Go
/-- What holds by computation, told without saying so (simp keeps a proof then). -/
theorem nrfl {α : Type} {a b : α} (h : a = b) : a = b := h

section
variable {β : Type}
theorem opt_s {α : Type} (x : α) (k : α → Option β) : opt (some x) k = k x := nrfl rfl
theorem opt_s_p {α : Type} (x : α) (k : α → Option β) : opt (some x) k = k x := nrfl rfl
theorem when_t (k : Option β) : when true k = k := nrfl rfl
theorem when_t_p (k : Option β) : when true k = k := nrfl rfl
end
theorem get_full_none {α : Type} (d k : Nat) : T.get (T.full (none : Option α) d) k = none := by
  rcases getB_full (none : Option α) (bits k) d with h | h <;> exact h
section
variable (k1 : Bool → R) (k2 : IntKind → Int → R) (k3 : ByteArray → R) (k4 : Nat → Nat → R) (k5 : AV → R)
theorem onB_b (x : Bool) : onB (.b x) k1 = k1 x := nrfl rfl
theorem onB_b_p (x : Bool) : onB (.b x) k1 = k1 x := nrfl rfl
theorem onI_i (k : IntKind) (n : Int) : onI (.i k n) k2 = k2 k n := nrfl rfl
theorem onI_i_p (k : IntKind) (n : Int) : onI (.i k n) k2 = k2 k n := nrfl rfl
theorem onS_s (x : ByteArray) : onS (.s x) k3 = k3 x := nrfl rfl
theorem onS_s_p (x : ByteArray) : onS (.s x) k3 = k3 x := nrfl rfl
theorem onP_p (a b : Nat) : onP (.p a b) k4 = k4 a b := nrfl rfl
theorem onP_p_p (a b : Nat) : onP (.p a b) k4 = k4 a b := nrfl rfl
theorem onTu_t (l : AV) : onTu (.tu l) k5 = k5 l := nrfl rfl
theorem onTu_t_p (l : AV) : onTu (.tu l) k5 = k5 l := nrfl rfl
theorem onNc_p (a b : Nat) : onNc (.p a b) k5 = k5 (.p a b) := nrfl rfl
theorem onNc_p_p (a b : Nat) : onNc (.p a b) k5 = k5 (.p a b) := nrfl rfl
theorem onLen_s (x : ByteArray) (sl : Nat → Nat → Nat → Nat → R) (g : Nat → Nat → R) (ns : R) : onLen (.s x) k3 sl g ns = k3 x := nrfl rfl
theorem onLen_s_p (x : ByteArray) (sl : Nat → Nat → Nat → Nat → R) (g : Nat → Nat → R) (ns : R) : onLen (.s x) k3 sl g ns = k3 x := nrfl rfl
theorem onLen_sl (a b c d : Nat) (sl : Nat → Nat → Nat → Nat → R) (g : Nat → Nat → R) (ns : R) : onLen (.sl a b c d) k3 sl g ns = sl a b c d := nrfl rfl
theorem onLen_sl_p (a b c d : Nat) (sl : Nat → Nat → Nat → Nat → R) (g : Nat → Nat → R) (ns : R) : onLen (.sl a b c d) k3 sl g ns = sl a b c d := nrfl rfl
theorem onLen_g (a b : Nat) (sl : Nat → Nat → Nat → Nat → R) (g : Nat → Nat → R) (ns : R) : onLen (.g a b) k3 sl g ns = g a b := nrfl rfl
theorem onLen_g_p (a b : Nat) (sl : Nat → Nat → Nat → Nat → R) (g : Nat → Nat → R) (ns : R) : onLen (.g a b) k3 sl g ns = g a b := nrfl rfl
theorem onLen_ns (sl : Nat → Nat → Nat → Nat → R) (g : Nat → Nat → R) (ns : R) : onLen .ns k3 sl g ns = ns := nrfl rfl
theorem onLen_ns_p (sl : Nat → Nat → Nat → Nat → R) (g : Nat → Nat → R) (ns : R) : onLen .ns k3 sl g ns = ns := nrfl rfl
theorem onSl_sl (a b c d : Nat) (sl : Nat → Nat → Nat → Nat → R) (g : Nat → Nat → R) (ns : R) : onSl (.sl a b c d) sl g ns = sl a b c d := nrfl rfl
theorem onSl_sl_p (a b c d : Nat) (sl : Nat → Nat → Nat → Nat → R) (g : Nat → Nat → R) (ns : R) : onSl (.sl a b c d) sl g ns = sl a b c d := nrfl rfl
theorem onSl_g (a b : Nat) (sl : Nat → Nat → Nat → Nat → R) (g : Nat → Nat → R) (ns : R) : onSl (.g a b) sl g ns = g a b := nrfl rfl
theorem onSl_g_p (a b : Nat) (sl : Nat → Nat → Nat → Nat → R) (g : Nat → Nat → R) (ns : R) : onSl (.g a b) sl g ns = g a b := nrfl rfl
theorem onSl_ns (sl : Nat → Nat → Nat → Nat → R) (g : Nat → Nat → R) (ns : R) : onSl .ns sl g ns = ns := nrfl rfl
theorem onSl_ns_p (sl : Nat → Nat → Nat → Nat → R) (g : Nat → Nat → R) (ns : R) : onSl .ns sl g ns = ns := nrfl rfl
end
theorem onL_e {β : Type} (e : Option β) (c : AV → AV → Option β) : onL .e e c = e := nrfl rfl
theorem onL_e_p {β : Type} (e : Option β) (c : AV → AV → Option β) : onL .e e c = e := nrfl rfl
theorem onL_c {β : Type} (x l : AV) (e : Option β) (c : AV → AV → Option β) : onL (.c x l) e c = c x l := nrfl rfl
theorem onL_c_p {β : Type} (x l : AV) (e : Option β) (c : AV → AV → Option β) : onL (.c x l) e c = c x l := nrfl rfl
section
variable (rg : T AV) (k : AV → R)
theorem oe_t (t : Nat) : oe rg (.tmp t) k = opt (T.get rg t) k := nrfl rfl
theorem oe_b (x : Bool) : oe rg (.const (.bool x)) k = k (.b x) := nrfl rfl
theorem oe_i (kd : IntKind) (n : Int) : oe rg (.const (.int kd n)) k = k (.i kd n) := nrfl rfl
theorem oe_s (x : ByteArray) : oe rg (.const (.string x)) k = k (.s x) := nrfl rfl
theorem oe_np : oe rg (.const (.pointer none)) k = k .np := nrfl rfl
theorem oe_ns : oe rg (.const (.slice none 0 0)) k = k .ns := nrfl rfl
theorem oe_ni : oe rg (.const .nilIface) k = k .ni := nrfl rfl
theorem oe_f (f : Nat) : oe rg (.func f) k = k (.f f .e) := nrfl rfl
theorem oes_n : oes rg [] k = k .e := nrfl rfl
theorem oes_c (x : Operand) (l : List Operand) : oes rg (x :: l) k = oe rg x fun v => oes rg l fun vs => k (.c v vs) := nrfl rfl
end
theorem setR_n (nt : Nat) (rg : T AV) (v : AV) (k : T AV → R) : setR nt rg none v k = k rg := nrfl rfl
theorem setR_s (nt : Nat) (rg : T AV) (d : Nat) (v : AV) (k : T AV → R) : setR nt rg (some d) v k = when (Nat.blt d nt) (k (T.put rg d v)) := by
  show when (Nat.blt d nt) (T.setK rg d v k) = _
  rw [setK_put]
theorem blt_eq (a b : Nat) : Nat.blt a b = decide (a < b) := by
  by_cases h : a < b
  · rw [decide_eq_true h, Nat.blt_eq]; exact h
  · rw [decide_eq_false h, ← Bool.not_eq_true, Nat.blt_eq]; exact h
theorem ble_eq (a b : Nat) : Nat.ble a b = decide (a ≤ b) := by
  by_cases h : a ≤ b
  · rw [decide_eq_true h, Nat.ble_eq]; exact h
  · rw [decide_eq_false h, ← Bool.not_eq_true, Nat.ble_eq]; exact h
theorem same_s (ka : IntKind) (r : R) : same ka ka r = r := by cases ka <;> rfl
section
variable (ka kb : IntKind) (x y : Int) (k : AV → R)
theorem intK_add : intK ka kb x y k .add = same ka kb (k (.i ka (ka.wrap (x + y)))) := by show same ka kb (addK ka x y k) = _; rw [addK_eq]
theorem intK_sub : intK ka kb x y k .sub = same ka kb (k (.i ka (ka.wrap (x - y)))) := by show same ka kb (subK ka x y k) = _; rw [subK_eq]
theorem intK_mul : intK ka kb x y k .mul = same ka kb (k (.i ka (ka.wrap (x * y)))) := by show same ka kb (mulK ka x y k) = _; rw [mulK_eq]
theorem intK_lss : intK ka kb x y k .lss = same ka kb (k (.b (decide (x < y)))) := by show same ka kb (boolK k (iLt x y)) = _; rw [boolK_eq, iLt_eq]
theorem intK_gtr : intK ka kb x y k .gtr = same ka kb (k (.b (decide (y < x)))) := by show same ka kb (boolK k (iLt y x)) = _; rw [boolK_eq, iLt_eq]
theorem intK_leq : intK ka kb x y k .leq = same ka kb (k (.b (decide (x ≤ y)))) := by
  show same ka kb (boolK k (!iLt y x)) = _
  rw [boolK_eq, iLt_eq, show (!decide (y < x)) = decide (x ≤ y) by by_cases h : y < x <;> simp [h] <;> omega]
theorem intK_geq : intK ka kb x y k .geq = same ka kb (k (.b (decide (y ≤ x)))) := by
  show same ka kb (boolK k (!iLt x y)) = _
  rw [boolK_eq, iLt_eq, show (!decide (x < y)) = decide (y ≤ x) by by_cases h : x < y <;> simp [h] <;> omega]
theorem intK_eql : intK ka kb x y k .eql = same ka kb (k (.b (decide (x = y)))) := by
  show same ka kb (boolK k (iEq x y)) = _
  rw [boolK_eq, iEq_eq, show (x == y) = decide (x = y) from rfl]
theorem intK_neq : intK ka kb x y k .neq = same ka kb (k (.b (!decide (x = y)))) := by
  show same ka kb (boolK k (!iEq x y)) = _
  rw [boolK_eq, iEq_eq, show (x == y) = decide (x = y) from rfl]
theorem intK_quo : intK ka kb x y k .quo = same ka kb (if y = 0 then none else k (.i ka (ka.wrap (x.tdiv y)))) := by
  show same ka kb (Bool.rec (motive := fun _ => R) (slowK ka (x.tdiv y) k) none (iEq y 0)) = _
  rw [iEq_eq, slowK_eq]
  by_cases h : y = 0
  · rw [if_pos h, show (y == 0) = true by simpa using h]
  · rw [if_neg h, show (y == 0) = false by simpa using h]
theorem intK_rem : intK ka kb x y k .rem = same ka kb (if y = 0 then none else k (.i ka (x.tmod y))) := by
  show same ka kb (Bool.rec (motive := fun _ => R) (forceI (x.tmod y) fun n => k (.i ka n)) none (iEq y 0)) = _
  rw [iEq_eq, forceI_eq]
  by_cases h : y = 0
  · rw [if_pos h, show (y == 0) = true by simpa using h]
  · rw [if_neg h, show (y == 0) = false by simpa using h]
theorem intK_and : intK ka kb x y k .and = same ka kb (k (.i ka (ka.wrap (BitVec.ofInt ka.bits x &&& BitVec.ofInt ka.bits y).toNat))) := by show same ka kb (bitK ka x y k fun a b => a &&& b) = _; rw [show bitK ka x y k (fun a b => a &&& b) = _ from slowK_eq _ _ _]
theorem intK_or : intK ka kb x y k .or = same ka kb (k (.i ka (ka.wrap (BitVec.ofInt ka.bits x ||| BitVec.ofInt ka.bits y).toNat))) := by show same ka kb (bitK ka x y k fun a b => a ||| b) = _; rw [show bitK ka x y k (fun a b => a ||| b) = _ from slowK_eq _ _ _]
theorem intK_shl : intK ka kb x y k .shl = if y < 0 then none else k (.i ka (ka.wrap (x * 2 ^ min y.toNat ka.bits))) := by
  show Bool.rec (motive := fun _ => R) (slowK ka (x * 2 ^ min y.toNat ka.bits) k) none (iLt y 0) = _
  rw [iLt_eq, slowK_eq]
  by_cases h : y < 0
  · rw [if_pos h, decide_eq_true h]
  · rw [if_neg h, decide_eq_false h]
theorem intK_shr : intK ka kb x y k .shr = if y < 0 then none else k (.i ka (x.fdiv (2 ^ min y.toNat ka.bits))) := by
  show Bool.rec (motive := fun _ => R) (forceI (x.fdiv (2 ^ min y.toNat ka.bits)) fun n => k (.i ka n)) none (iLt y 0) = _
  rw [iLt_eq, forceI_eq]
  by_cases h : y < 0
  · rw [if_pos h, decide_eq_true h]
  · rw [if_neg h, decide_eq_false h]
theorem eqK_e (t : Bool) : eqK .eql t k = k (.b t) := by show boolK k t = _; rw [boolK_eq]
theorem eqK_n (t : Bool) : eqK .neq t k = k (.b (!t)) := by show boolK k (!t) = _; rw [boolK_eq]
end
theorem bop_ii (P : Program) (op : BinOp) (xt : Nat) (c : Bool) (ka kb : IntKind) (x y : Int) (k : AV → R) : bop P op xt c (.i ka x) (.i kb y) k = intK ka kb x y k op := nrfl rfl
theorem bop_nn (P : Program) (op : BinOp) (xt : Nat) (c : Bool) (k : AV → R) : bop P op xt c .ni .ni k = when (c && isIface (P.underlying xt)) (eqK op true k) := nrfl rfl
theorem nat2_n (a b : Nat) (f : Nat → Nat → R) (s : R) : nat2 (a : Int) (b : Int) f s = f a b := nrfl rfl
theorem nat2_n_p (a b : Nat) (f : Nat → Nat → R) (s : R) : nat2 (a : Int) (b : Int) f s = f a b := nrfl rfl
theorem nat2_0 (a : Nat) (f : Nat → Nat → R) (s : R) : nat2 (a : Int) 0 f s = f a 0 := nrfl rfl
theorem nat2_0_p (a : Nat) (f : Nat → Nat → R) (s : R) : nat2 (a : Int) 0 f s = f a 0 := nrfl rfl
theorem nat2_00 (f : Nat → Nat → R) (s : R) : nat2 0 0 f s = f 0 0 := nrfl rfl
theorem nat2_00_p (f : Nat → Nat → R) (s : R) : nat2 0 0 f s = f 0 0 := nrfl rfl
theorem nat2_0n (b : Nat) (f : Nat → Nat → R) (s : R) : nat2 0 (b : Int) f s = f 0 b := nrfl rfl
theorem nat2_0n_p (b : Nat) (f : Nat → Nat → R) (s : R) : nat2 0 (b : Int) f s = f 0 b := nrfl rfl
/-- The slot of an operation, by its number. -/
def dstAt : List Oper → Nat → Option Tmp
  | [], _ => none
  | o :: _, 0 => o.dst
  | _ :: l, n + 1 => dstAt l n
theorem dstAt_eq : ∀ (l : List Oper) (j : Nat), (l[j]?).bind (·.dst) = dstAt l j
  | [], _ => rfl
  | _ :: _, 0 => rfl
  | _ :: l, n + 1 => by simpa [dstAt] using dstAt_eq l n
theorem dstAt_0 (d : Option Tmp) (op : Op) (ty : TypeId) (ps : String) (af : Array Edge) (g : Option (Nat × Bool)) (l : List Oper) : dstAt (⟨d, op, ty, ps, af, g⟩ :: l) 0 = d := nrfl rfl
theorem dstAt_s (o : Oper) (l : List Oper) (n : Nat) : dstAt (o :: l) (n + 1) = dstAt l n := nrfl rfl
noncomputable def getAt (rg : T AV) : Option Tmp → Option AV
  | some d => T.get rg d
  | none => none
theorem getAt_s (rg : T AV) (d : Nat) : getAt rg (some d) = T.get rg d := nrfl rfl
/-- A guard's word. -/
noncomputable def wantB (v : AV) (x : Bool) (yes no : R) : R :=
  AV.rec (motive := fun _ => R) (fun y => Bool.rec (motive := fun _ => R) (Bool.rec (motive := fun _ => R) yes no x) (Bool.rec (motive := fun _ => R) no yes x) y)
      (fun _ _ => no) (fun _ => no) (fun _ _ => no) no (fun _ _ _ _ => no) (fun _ _ => no) no (fun _ _ _ => no) no (fun _ _ _ => no) no (fun _ _ => no) (fun _ _ => no) none (fun _ _ _ _ => none) (fun _ => no) v
theorem wantB_b (y x : Bool) (yes no : R) : wantB (.b y) x yes no = if y = x then yes else no := by cases y <;> cases x <;> rfl
theorem wantB_b_p (y x : Bool) (yes no : R) : wantB (.b y) x yes no = if y = x then yes else no := by cases y <;> cases x <;> rfl
section
variable (P : Program) (ex : Runner) (q : Bool) (nt : Nat) (rg : T AV) (h : AH) (k : AX → T AV → AH → R)
theorem exec_s (n : Nat) (c : Code) : exec P (n + 1) q nt c rg h k = codeStep P (exec P n) q nt rg h k c := nrfl rfl
theorem cs_seq (a b : Code) : codeStep P ex q nt rg h k (.seq a b) = ex q nt a rg h (kSeq ex q nt b k) := nrfl rfl
theorem cs_ret : codeStep P ex q nt rg h k .ret = k .ret rg h := nrfl rfl
theorem cs_skip : codeStep P ex q nt rg h k .skip = k .normal rg h := nrfl rfl
theorem cs_exit (id : Nat) : codeStep P ex q nt rg h k (.exit id) = k (.exit id) rg h := nrfl rfl
theorem cs_region (id : Nat) (ops : Array Oper) : codeStep P ex q nt rg h k (.region id ops false) = rPlain P ex q nt rg h k ops := nrfl rfl
theorem cs_draw (id : Nat) (ops : Array Oper) : codeStep P ex q nt rg h k (.region id ops true) = rDraw P ex q nt rg h k ops := nrfl rfl
theorem cs_cond (c : Operand) (a b : Code) : codeStep P ex q nt rg h k (.cond c a b) = oe rg c fun v => onB v fun t => if t = true then ex q nt a rg h k else ex q nt b rg h k := by
  show oe rg c _ = _
  congr 1
  funext v
  congr 1
  funext t
  cases t <;> rfl
theorem cs_block (id : Nat) (c : Code) : codeStep P ex q nt rg h k (.block id c) = ex q nt c rg h (kBlock id k) := nrfl rfl
theorem cs_loop (c : Code) : codeStep P ex q nt rg h k (.loop c) = ex q nt c rg h (kSeq ex q nt (.loop c) k) := nrfl rfl
theorem kBlock_n (id : Nat) : kBlock id k .normal rg h = k .normal rg h := nrfl rfl
theorem kBlock_r (id : Nat) : kBlock id k .ret rg h = k .ret rg h := nrfl rfl
theorem kBlock_e (id i : Nat) : kBlock id k (.exit i) rg h = if i = id then k .normal rg h else k (.exit i) rg h := by
  show Bool.rec (motive := fun _ => R) (k (.exit i) rg h) (k .normal rg h) (Nat.beq i id) = _
  by_cases e : i = id
  · subst e; rw [if_pos rfl, Nat.beq_refl]
  · rw [if_neg e, show Nat.beq i id = false from Bool.eq_false_iff.2 fun e' => e (Nat.eq_of_beq_eq_true e')]
theorem rPlain_f (l : List Oper) : rPlain P ex false nt rg h k l.toArray = execOps P nt (callAt P ex false) l.toArray l rg h fun rg h => k .normal rg h := nrfl rfl
theorem rPlain_t (l : List Oper) : rPlain P ex true nt rg h k l.toArray = execQ P nt (callAt P ex true) l.toArray h l rg fun rg => k .normal rg h := nrfl rfl
theorem rDraw_r (l : List Oper) (h1 : l.any isWrite = false) (h3 : l.any isMake = false) (h2 : Region.lexB .any l.toArray = true) : rDraw P ex q nt rg h k l.toArray = execQ P nt (callAt P ex true) l.toArray h l rg fun rg => k .normal rg h := by
  unfold rDraw
  rw [show l.toArray.toList = l from rfl, h1, h2, h3]
  rfl
theorem rDraw_m (l l1 l2 : List Oper) (n : Nat) (h1 : l.any isWrite = false) (h3 : l.any isMake = true) (hn : firstM l = n) (e1 : l.take n = l1) (e2 : l.drop n = l2) (h2 : takesB l.toArray n = true) : rDraw P ex false nt rg h k l.toArray =
    execQ P nt (fun _ _ _ _ => none) l.toArray h l1 rg fun rg => execOps P nt (callAt P ex false) l.toArray l2 rg h fun rg h => k .normal rg h := by
  subst hn e1 e2
  unfold rDraw
  rw [show l.toArray.toList = l from rfl, h1, h2, h3]
  rfl
theorem kSeq_n (b : Code) : kSeq ex q nt b k .normal rg h = ex q nt b rg h k := nrfl rfl
theorem kSeq_r (b : Code) : kSeq ex q nt b k .ret rg h = k .ret rg h := nrfl rfl
theorem kSeq_e (b : Code) (id : Nat) : kSeq ex q nt b k (.exit id) rg h = k (.exit id) rg h := nrfl rfl
theorem execOps_n (call : Caller) (ops : Array Oper) (k : T AV → AH → R) : execOps P nt call ops [] rg h k = k rg h := nrfl rfl
theorem execOps_c (call : Caller) (ops : Array Oper) (d : Option Tmp) (op : Op) (ty : TypeId) (ps : String) (af : Array Edge) (g : Option (Nat × Bool)) (l : List Oper) (k : T AV → AH → R) :
    execOps P nt call ops (⟨d, op, ty, ps, af, g⟩ :: l) rg h k = want ops rg g (opGo P nt call rg h d (fun rg h => execOps P nt call ops l rg h k) op) (setR nt rg d (.tu .e) fun rg => execOps P nt call ops l rg h k) := nrfl rfl
theorem execQ_n (call : Caller) (ops : Array Oper) (k : T AV → R) : execQ P nt call ops h [] rg k = k rg := nrfl rfl
theorem execQ_c (call : Caller) (ops : Array Oper) (d : Option Tmp) (op : Op) (ty : TypeId) (ps : String) (af : Array Edge) (g : Option (Nat × Bool)) (l : List Oper) (k : T AV → R) :
    execQ P nt call ops h (⟨d, op, ty, ps, af, g⟩ :: l) rg k = want ops rg g (qGo P nt call rg h d (fun rg => execQ P nt call ops h l rg k) op) (setR nt rg d (.tu .e) fun rg => execQ P nt call ops h l rg k) := nrfl rfl
theorem want_n (ops : Array Oper) (yes no : R) : want ops rg none yes no = yes := nrfl rfl
noncomputable def wantO (o : Option AV) (x : Bool) (yes no : R) : R := opt o fun v => wantB v x yes no
theorem wantO_b (y x : Bool) (yes no : R) : wantO (some (.b y)) x yes no = if y = x then yes else no := wantB_b y x yes no
noncomputable def wantP (rg : T AV) (d : Nat) (x : Bool) (yes no : R) : R := opt (T.get rg d) fun v => wantB v x yes no
noncomputable def wantD (l : List Oper) (j : Nat) (rg : T AV) (x : Bool) (yes no : R) : R := opt (getAt rg (dstAt l j)) fun v => wantB v x yes no
theorem wantD_0 (d : Nat) (op : Op) (ty : TypeId) (ps : String) (af : Array Edge) (g : Option (Nat × Bool)) (l : List Oper) (x : Bool) (yes no : R) : wantD (⟨some d, op, ty, ps, af, g⟩ :: l) 0 rg x yes no = wantP rg d x yes no := nrfl rfl
theorem wantD_s (o : Oper) (l : List Oper) (j : Nat) (x : Bool) (yes no : R) : wantD (o :: l) (j + 1) rg x yes no = wantD l j rg x yes no := nrfl rfl
theorem wantP_put (k d : Nat) (v : AV) (x : Bool) (yes no : R) : wantP (T.put rg k v) d x yes no = if d = k then wantB v x yes no else wantP rg d x yes no := by
  unfold wantP
  rw [get_put]
  by_cases e : d = k
  · rw [if_pos e, if_pos e]; rfl
  · rw [if_neg e, if_neg e]
theorem want_g (l : List Oper) (j : Nat) (x : Bool) (yes no : R) : want l.toArray rg (some (j, x)) yes no = wantD l j rg x yes no := by
  show opt ((l.toArray[j]?).bind (·.dst)) _ = _
  rw [show (l.toArray[j]?).bind (·.dst) = dstAt l j by rw [List.getElem?_toArray]; exact dstAt_eq l j]
  unfold wantD
  cases dstAt l j <;> rfl
end
section
variable (P : Program) (nt : Nat) (call : Caller) (rg : T AV) (h : AH) (dst : Option Tmp) (k : T AV → AH → R) (kq : T AV → R)
theorem go_move (x : Operand) : opGo P nt call rg h dst k (.move x) = oe rg x fun v => setR nt rg dst v fun rg => k rg h := nrfl rfl
theorem go_assign (x : Operand) : opGo P nt call rg h dst k (.assign x) = oe rg x fun v => setR nt rg dst v fun rg => k rg h := nrfl rfl
theorem go_pick (c x y : Operand) : opGo P nt call rg h dst k (.pick c x y) = pPick rg (fun v => setR nt rg dst v fun rg => k rg h) c x y := nrfl rfl
theorem go_alloc (t : Nat) : opGo P nt call rg h dst k (.alloc t) = wAlloc P nt rg h dst k t := nrfl rfl
theorem go_box (t : Nat) (x : Operand) : opGo P nt call rg h dst k (.box t x) = wBox nt rg h dst k t x := nrfl rfl
theorem go_build (t : Nat) (ps : Array (Nat × Operand)) : opGo P nt call rg h dst k (.build t ps) = pBuild P rg (fun v => setR nt rg dst v fun rg => k rg h) t ps := nrfl rfl
theorem go_buildSlice (t n : Nat) (ps : Array (Nat × Operand)) : opGo P nt call rg h dst k (.buildSlice t n ps) = wBuild P nt rg h dst k t n ps := nrfl rfl
theorem go_insert (t : Nat) (m x y : Operand) : opGo P nt call rg h dst k (.insert t m x y) = wInsert P nt rg h dst k t m x y := nrfl rfl
theorem go_load (t : Nat) (x : Operand) : opGo P nt call rg h dst k (.load t x) = loadV P rg h t x fun v => setR nt rg dst v fun rg => k rg h := nrfl rfl
theorem go_store (t : Nat) (x y : Operand) : opGo P nt call rg h dst k (.store t x y) = wStore P nt rg h dst k t x y := nrfl rfl
theorem go_nil (x : Operand) : opGo P nt call rg h dst k (.nilCheck x) = pNil rg (fun v => setR nt rg dst v fun rg => k rg h) x := nrfl rfl
theorem go_binOp (op : BinOp) (xt yt : Nat) (x y : Operand) : opGo P nt call rg h dst k (.binOp op xt x y yt) = pBin P rg (fun v => setR nt rg dst v fun rg => k rg h) op xt x y := nrfl rfl
theorem go_unOp (op : UnOp) (t : Nat) (x : Operand) : opGo P nt call rg h dst k (.unOp op t x) = pNot rg (fun v => setR nt rg dst v fun rg => k rg h) op x := nrfl rfl
theorem go_convert (s d : Nat) (x : Operand) : opGo P nt call rg h dst k (.convert s d x) = wConv P nt rg h dst k s d x := nrfl rfl
theorem go_makeMap (t : Nat) (x : Option Operand) : opGo P nt call rg h dst k (.makeMap t x) = wMap P nt rg h dst k t x := nrfl rfl
theorem go_makeSlice (t : Nat) (x y : Operand) : opGo P nt call rg h dst k (.makeSlice t x y) = wMake P nt rg h dst k t x y := nrfl rfl
theorem go_slice (t : Nat) (x : Operand) (lo hi : Option Operand) : opGo P nt call rg h dst k (.slice t x lo hi none) = pSub P rg (fun v => setR nt rg dst v fun rg => k rg h) t x lo hi := nrfl rfl
theorem go_field (s f : Nat) (x : Operand) : opGo P nt call rg h dst k (.fieldAddr s x f) = pField P rg (fun v => setR nt rg dst v fun rg => k rg h) s x f := nrfl rfl
theorem go_indexAddr (t : Nat) (x ix : Operand) : opGo P nt call rg h dst k (.indexAddr t x ix) = pIndex P rg (fun v => setR nt rg dst v fun rg => k rg h) t x ix := nrfl rfl
theorem go_index (t : Nat) (x ix : Operand) : opGo P nt call rg h dst k (.index t x ix) = pIdx P rg (fun v => setR nt rg dst v fun rg => k rg h) t x ix := nrfl rfl
theorem go_lookup (t : Nat) (x ix : Operand) (c : Bool) : opGo P nt call rg h dst k (.lookup t x ix c) = wLookup P nt rg h dst k t x ix c := nrfl rfl
theorem go_extract (x : Operand) (i : Nat) : opGo P nt call rg h dst k (.extract x i) = pExt rg (fun v => setR nt rg dst v fun rg => k rg h) x i := nrfl rfl
theorem go_len (x : Operand) (t : Nat) : opGo P nt call rg h dst k (.call ⟨.builtin .len, #[x], #[t]⟩) = pLen P rg (fun v => setR nt rg dst v fun rg => k rg h) x t := nrfl rfl
theorem go_append (x y : Operand) (t t' : Nat) : opGo P nt call rg h dst k (.call ⟨.builtin .append, #[x, y], #[t, t']⟩) = wAppend P nt rg h dst k t t' x y := nrfl rfl
theorem go_min (x y : Operand) (ts : Array Nat) : opGo P nt call rg h dst k (.call ⟨.builtin .min, #[x, y], ts⟩) = pMin rg (fun v => setR nt rg dst v fun rg => k rg h) x y := nrfl rfl
theorem go_func (f : Nat) (args : List Operand) (ts : Array Nat) : opGo P nt call rg h dst k (.call ⟨.value (.func f), args.toArray, ts⟩) = oes rg args fun l => appK l .e fun l => call f l h fun v h => setR nt rg dst v fun rg => k rg h := nrfl rfl
theorem appK_c (x l m : AV) (k : AV → R) : appK (.c x l) m k = appK l m fun r => k (.c x r) := nrfl rfl
theorem appK_e (m : AV) (k : AV → R) : appK .e m k = k m := nrfl rfl
theorem q_move (x : Operand) : qGo P nt call rg h dst kq (.move x) = oe rg x fun v => setR nt rg dst v kq := nrfl rfl
theorem q_assign (x : Operand) : qGo P nt call rg h dst kq (.assign x) = oe rg x fun v => setR nt rg dst v kq := nrfl rfl
theorem q_nil (x : Operand) : qGo P nt call rg h dst kq (.nilCheck x) = pNil rg (fun v => setR nt rg dst v kq) x := nrfl rfl
theorem q_field (s f : Nat) (x : Operand) : qGo P nt call rg h dst kq (.fieldAddr s x f) = pField P rg (fun v => setR nt rg dst v kq) s x f := nrfl rfl
theorem q_indexAddr (t : Nat) (x ix : Operand) : qGo P nt call rg h dst kq (.indexAddr t x ix) = pIndex P rg (fun v => setR nt rg dst v kq) t x ix := nrfl rfl
theorem q_index (t : Nat) (x ix : Operand) : qGo P nt call rg h dst kq (.index t x ix) = pIdx P rg (fun v => setR nt rg dst v kq) t x ix := nrfl rfl
theorem q_load (t : Nat) (x : Operand) : qGo P nt call rg h dst kq (.load t x) = loadV P rg h t x fun v => setR nt rg dst v kq := nrfl rfl
theorem q_binOp (op : BinOp) (xt yt : Nat) (x y : Operand) : qGo P nt call rg h dst kq (.binOp op xt x y yt) = pBin P rg (fun v => setR nt rg dst v kq) op xt x y := nrfl rfl
theorem q_convert (s d : Nat) (x : Operand) : qGo P nt call rg h dst kq (.convert s d x) = pConv P rg (fun v => setR nt rg dst v kq) s d x := nrfl rfl
theorem q_len (x : Operand) (t : Nat) : qGo P nt call rg h dst kq (.call ⟨.builtin .len, #[x], #[t]⟩) = pLen P rg (fun v => setR nt rg dst v kq) x t := nrfl rfl
end
section
variable (P : Program) (nt : Nat) (rg : T AV) (h : AH) (dst : Option Tmp) (k : AV → R) (kk : T AV → AH → R)
theorem pPick_if (c x y : Operand) : pPick rg k c x y = oe rg c fun v => onB v fun t => if t = true then oe rg x k else oe rg y k := by
  show oe rg c _ = _
  congr 1; funext v; congr 1; funext t; cases t <;> rfl
theorem pBin_n (op : BinOp) (xt : Nat) (x y : Operand) (hs : isSlice P xt = false) : pBin P rg k op xt x y = oe rg x fun a => oe rg y fun b => bop P op xt (isC x || isC y) a b k := by
  unfold pBin; rw [hs]
theorem pBin_s (op : BinOp) (xt : Nat) (x y : Operand) (hs : isSlice P xt = true) : pBin P rg k op xt x y = oe rg x fun a => oe rg y fun b => eqNil k op a b := by
  unfold pBin; rw [hs]
theorem pNot_n (x : Operand) : pNot rg k .not x = oe rg x fun v => onB v fun t => k (.b (!t)) := by
  show oe rg x _ = _
  congr 1; funext v; congr 1; funext t; exact boolK_eq _ _
theorem pConv_n (s d : Nat) (x : Operand) (kd : IntKind) (hi : Vm.intOf P s d = some kd) : pConv P rg k s d x = oe rg x fun v => onI v fun _ n => k (.i kd (kd.wrap n)) := by
  unfold pConv
  rw [hi]
  congr 1; funext v; congr 1; funext _ n
  show nat2 n 0 (fun m _ => wrapN kd m k) (slowK kd n k) = _
  cases n with
  | ofNat m => exact wrapN_eq _ _ _
  | negSucc m => exact slowK_eq _ _ _
theorem wConv_n (s d : Nat) (x : Operand) (kd : IntKind) (hi : Vm.intOf P s d = some kd) : wConv P nt rg h dst kk s d x = oe rg x fun v => onI v fun _ n => setR nt rg dst (.i kd (kd.wrap n)) fun rg => kk rg h := by
  unfold wConv
  rw [hi]
  exact pConv_n P rg _ s d x kd hi
theorem pField_n (s f d : Nat) (x : Operand) (hf : fieldOff P s f = some d) : pField P rg k s x f = oe rg x fun v => onP v fun id off => k (.p id (off + d)) := by
  unfold pField
  rw [hf]
  congr 1; funext v; congr 1; funext id off
  rw [opt_s]
  exact forceN_eq _ _
theorem pIndex_n (t e : Nat) (x ix : Operand) (he : elemOf P t = some e) (ho : one P e = true) : pIndex P rg k t x ix = oe rg x fun v => oe rg ix fun w => onI w fun _ n => nat2 n 0 (fun m _ =>
      onSl v (fun id off len _ => when (decide (m < len)) (k (.p id (off + m)))) (fun id len => when (decide (m < len)) (k (.p id m))) none) none := by
  unfold pIndex
  rw [he, opt_s, ho]
  change oe rg x _ = oe rg x _
  congr 1; funext v; congr 1; funext w; congr 1; funext _ n; congr 1; funext m _; congr 1
  · funext id off len _; rw [blt_eq, forceN_eq]; rfl
  · funext id len; rw [blt_eq]
theorem pIdx_n (t : Nat) (x ix : Operand) (ht : isStr P t = true) : pIdx P rg k t x ix = oe rg x fun v => oe rg ix fun w => onS v fun s => onI w fun _ n => nat2 n 0 (fun m _ => opt (s[m]?) fun b => k (.i .u8 (b.toNat : Int))) none := by
  unfold pIdx
  rw [ht, when_t]
  congr 1; funext v; congr 1; funext w; congr 1; funext s; congr 1; funext _ n; congr 1; funext m _; congr 1; funext b
  exact forceN_eq _ _
theorem pSub_n (t : Nat) (x lo hi : Operand) (ht : isStr P t = true) : pSub P rg k t x (some lo) (some hi) =
    oe rg x fun v => onS v fun s => oe rg lo fun i => oe rg hi fun j => onI i fun _ i => onI j fun _ j => nat2 i j (fun i j => when (decide (i ≤ j)) (when (decide (j ≤ s.size)) (k (.s (s.extract i j))))) none := by
  unfold pSub
  rw [ht, when_t]
  congr 1; funext v; congr 1; funext s
  simp only [opt_s, ble_eq]
theorem pMin_n (x y : Operand) : pMin rg k x y = oe rg x fun v => oe rg y fun w => onI v fun ka a => onI w fun kb b => same ka kb (k (.i ka (if b < a then b else a))) := by
  unfold pMin
  congr 1; funext v; congr 1; funext w; congr 1; funext ka a; congr 1; funext kb b; congr 1
  rw [iLt_eq]
  by_cases hb : b < a
  · rw [if_pos hb, decide_eq_true hb]
  · rw [if_neg hb, decide_eq_false hb]
theorem pLen_n (x : Operand) (t : Nat) : pLen P rg k x t = oe rg x fun v => onLen v (fun x => when (isStr P t) (k (.i .i64 (x.size : Int)))) (fun _ _ len _ => opt (elemOf P t) fun _ => k (.i .i64 (len : Int)))
    (fun _ len => opt (elemOf P t) fun _ => k (.i .i64 (len : Int))) (opt (elemOf P t) fun _ => k (.i .i64 0)) := by
  unfold pLen
  congr 1; funext v; congr 1; funext x; congr 1
  exact forceN_eq _ _
theorem nth_0 (x l : AV) : nth k 0 (.c x l) = k x := nrfl rfl
theorem nth_1 (x y l : AV) : nth k 1 (.c x (.c y l)) = k y := nrfl rfl
theorem nth_2 (x y z l : AV) : nth k 2 (.c x (.c y (.c z l))) = k z := nrfl rfl
theorem nth_3 (x y z u l : AV) : nth k 3 (.c x (.c y (.c z (.c u l)))) = k u := nrfl rfl
theorem loadV_n (t : Nat) (x : Operand) (ho : one P t = true) : loadV P rg h t x k = oe rg x fun v => onP v fun id off => opt (T.get h.objs id) fun o => opt (AO.at o off) k := by
  unfold loadV; rw [ho]
theorem wNew_n (o : AO) (v : Nat → AV) : wNew nt rg h dst kk o v = setR nt rg dst (v h.next) fun rg => kk rg ⟨T.put h.objs h.next o, h.next + 1⟩ := by
  show T.setK h.objs h.next o (fun t => forceN (Nat.succ h.next) fun n => setR nt rg dst (v h.next) fun rg => kk rg ⟨t, n⟩) = _
  rw [setK_put, forceN_eq]
theorem wObj_n (id : Nat) (o : AO) (v : AV) : wObj nt rg h dst kk id o v = setR nt rg dst v fun rg => kk rg ⟨T.put h.objs id o, h.next⟩ := by
  show T.setK h.objs id o (fun ob => setR nt rg dst v fun rg => kk rg ⟨ob, h.next⟩) = _
  rw [setK_put]
theorem wStore_n (t : Nat) (x y : Operand) (ho : one P t = true) : wStore P nt rg h dst kk t x y = oe rg x fun p => oe rg y fun v => onP p fun id off => opt (T.get h.objs id) fun o => onCells o fun e size cs =>
    when (scalar v) (when (decide (off < size)) (setR nt rg dst (.tu .e) fun rg => kk rg ⟨T.put h.objs id (.cells e size (T.put cs off v)), h.next⟩)) := by
  unfold wStore
  congr 1; funext p; congr 1; funext v; congr 1; funext id off; congr 1; funext o; congr 1; funext e size cs
  rw [ho, blt_eq]
  congr 1; congr 1
  rw [setK_put, wObj_n]
theorem wBuild_1 (t e : Nat) (x : Operand) (z : AV) (he : elemOf P t = some e) (ho : one P e = true) (hz : zero1 P e = some z) : wBuild P nt rg h dst kk t 1 #[(0, x)] =
    oe rg x fun v => when (scalar v) (setR nt rg dst (.sl h.next 0 1 1) fun rg => kk rg ⟨T.put h.objs h.next (.cells e 1 (T.put (T.full (some z) depthC) 0 v)), h.next + 1⟩) := by
  unfold wBuild
  rw [he, opt_s, ho, hz]
  show oe rg x (fun v => when (scalar v) (T.setK (T.full (some z) depthC) 0 v fun cs => wNew nt rg h dst kk (.cells e 1 cs) fun id => .sl id 0 1 1)) = _
  congr 1; funext v; congr 1
  rw [setK_put, wNew_n]
theorem wBuild_2 (t e : Nat) (x y : Operand) (z : AV) (he : elemOf P t = some e) (ho : one P e = true) (hz : zero1 P e = some z) : wBuild P nt rg h dst kk t 2 #[(0, x), (1, y)] =
    oe rg x fun v => when (scalar v) (oe rg y fun u => when (scalar u) (setR nt rg dst (.sl h.next 0 2 2) fun rg => kk rg ⟨T.put h.objs h.next (.cells e 2 (T.put (T.put (T.full (some z) depthC) 0 v) 1 u)), h.next + 1⟩)) := by
  unfold wBuild
  rw [he, opt_s, ho, hz]
  show oe rg x (fun v => when (scalar v) (T.setK (T.full (some z) depthC) 0 v fun cs => oe rg y fun u => when (scalar u) (T.setK cs 1 u fun cs => wNew nt rg h dst kk (.cells e 2 cs) fun id => .sl id 0 2 2))) = _
  congr 1; funext v; congr 1
  rw [setK_put]
  congr 1; funext u; congr 1
  rw [setK_put, wNew_n]
theorem wBuild_0 (t e : Nat) (z : AV) (he : elemOf P t = some e) (ho : one P e = true) (hz : zero1 P e = some z) : wBuild P nt rg h dst kk t 0 #[] = setR nt rg dst (.sl h.next 0 0 0) fun rg => kk rg ⟨T.put h.objs h.next (.cells e 0 (T.full (some z) depthC)), h.next + 1⟩ := by
  unfold wBuild
  rw [he, opt_s, ho, hz]
  exact wNew_n nt rg h dst kk (.cells e 0 (T.full (some z) depthC)) fun id => .sl id 0 0 0
theorem wMake_n (t e : Nat) (x y : Operand) (z : AV) (he : elemOf P t = some e) (ho : (one P e && small P e) = true) (hz : zero1 P e = some z) : wMake P nt rg h dst kk t x y =
    oe rg x fun l => oe rg y fun c => onI l fun kl l => onI c fun kc c => when (Nat.beq (kn kl) 3) (when (Nat.beq (kn kc) 3) (nat2 l c (fun l c => when (decide (l ≤ c)) (when (decide (c < 100000))
      (setR nt rg dst (.sl h.next 0 l c) fun rg => kk rg ⟨T.put h.objs h.next (.cells e c (T.full (some z) depthC)), h.next + 1⟩))) none)) := by
  unfold wMake
  rw [he, opt_s, ho, hz, when_t]
  simp only [opt_s, blt_eq, ble_eq, wNew_n]
theorem wBox_s (t : Nat) (x : Operand) : wBox nt rg h dst kk t x = oe rg x fun v => onBox v (fun l => putL l (T.full none depthC) 0 fun cs n => setR nt rg dst (.p h.next 0) fun rg => kk rg ⟨T.put h.objs h.next (.cells t n cs), h.next + 1⟩)
    (setR nt rg dst (.p h.next 0) fun rg => kk rg ⟨T.put h.objs h.next (.cells t 1 (T.full (some v) 1)), h.next + 1⟩) := by
  unfold wBox
  simp only [wNew_n]
theorem wAlloc_1 (t : Nat) (z : AV) (ho : one P t = true) (hz : zero1 P t = some z) : wAlloc P nt rg h dst kk t = setR nt rg dst (.p h.next 0) fun rg => kk rg ⟨T.put h.objs h.next (.cells t 1 (T.full (some z) 1)), h.next + 1⟩ := by
  unfold wAlloc
  rw [ho, hz]
  exact wNew_n nt rg h dst kk _ _
end
theorem at_grow (e size : Nat) (cs : T AV) (off : Nat) : AO.at (.grow e size cs) off = if off < size then T.get cs off else none := by
  show Bool.rec (motive := fun _ => Option AV) none (T.get cs off) (Nat.blt off size) = _
  by_cases h : off < size
  · rw [if_pos h, show Nat.blt off size = true by rw [Nat.blt_eq]; exact h]
  · rw [if_neg h, show Nat.blt off size = false by rw [← Bool.not_eq_true, Nat.blt_eq]; exact h]
theorem at_ro (e size : Nat) (cs : T AV) (off : Nat) : AO.at (.ro e size cs) off = if off < size then T.get cs off else none := by
  show Bool.rec (motive := fun _ => Option AV) none (T.get cs off) (Nat.blt off size) = _
  by_cases h : off < size
  · rw [if_pos h, show Nat.blt off size = true by rw [Nat.blt_eq]; exact h]
  · rw [if_neg h, show Nat.blt off size = false by rw [← Bool.not_eq_true, Nat.blt_eq]; exact h]
theorem onCells_c (e s : Nat) (c : T AV) (k : Nat → Nat → T AV → R) : onCells (.cells e s c) k = k e s c := nrfl rfl
theorem onCells_c_p (e s : Nat) (c : T AV) (k : Nat → Nat → T AV → R) : onCells (.cells e s c) k = k e s c := nrfl rfl
theorem onF_f (f : Nat) (c : AV) (k : Nat → AV → R) : onF (.f f c) k = k f c := nrfl rfl
theorem onF_f_p (f : Nat) (c : AV) (k : Nat → AV → R) : onF (.f f c) k = k f c := nrfl rfl
theorem callAt_n (P : Program) (ex : Runner) (q : Bool) (f : Nat) (l : AV) (h : AH) (k : AV → AH → R) (h1 : Nat.beq f 127 = false) (h2 : Nat.beq f 41 = false) : callAt P ex q f l h k = callIn P ex q f l h k := by
  unfold callAt
  rw [h1, h2]
theorem at_cells (e size : Nat) (cs : T AV) (off : Nat) : AO.at (.cells e size cs) off = if off < size then T.get cs off else none := by
  show Bool.rec (motive := fun _ => Option AV) none (T.get cs off) (Nat.blt off size) = _
  by_cases h : off < size
  · rw [if_pos h, show Nat.blt off size = true by rw [Nat.blt_eq]; exact h]
  · rw [if_neg h, show Nat.blt off size = false by rw [← Bool.not_eq_true, Nat.blt_eq]; exact h]
theorem enter {P : Program} {f : Nat} {fn : Func} {c : Code} {nt : Nat} {rs : List ResultVar} (hf : P.funcs[f]? = some fn) (hb : fn.body = some c) (hn : noNG fn = true) (ht : fn.ntmps = nt) (hr : fn.results = rs.toArray) (ex : Runner) (q : Bool) (args : AV) (h : AH) (k : AV → AH → R) :
    callIn P ex q f args h k = regsL args (T.full none depthC) 0 fun rg n => when (decide (n ≤ nt)) (ex q nt c rg h (outK P rs.toArray k)) := by
  unfold callIn callFn
  rw [hf, opt_s, hb, opt_s, hn, when_t, ht, hr]
  congr 1; funext rg n; rw [ble_eq]
theorem regs_e (cs : T AV) (off : Nat) (k : T AV → Nat → R) : regsL .e cs off k = k cs off := nrfl rfl
theorem regs_c (x l : AV) (cs : T AV) (off : Nat) (k : T AV → Nat → R) : regsL (.c x l) cs off k = regsL l (T.put cs off x) (off + 1) k := by
  show T.setK cs off x (fun cs => forceN (Nat.succ off) fun off => regsL l cs off k) = _
  rw [setK_put, forceN_eq]
theorem outK_r (P : Program) (rs : List ResultVar) (k : AV → AH → R) (rg : T AV) (h : AH) : outK P rs.toArray k .ret rg h = outOf P rg h rs fun l => outV l fun v => k v h := nrfl rfl
theorem outK_n (P : Program) (rs : List ResultVar) (k : AV → AH → R) (rg : T AV) (h : AH) : outK P rs.toArray k .normal rg h = outOf P rg h rs fun l => outV l fun v => k v h := nrfl rfl
theorem out1_r (P : Program) (k : AV → AH → R) (rg : T AV) (h : AH) (t : Nat) : outK P [.tmp t].toArray k .ret rg h = opt (T.get rg t) fun v => k v h := nrfl rfl
theorem out2_r (P : Program) (k : AV → AH → R) (rg : T AV) (h : AH) (t u : Nat) : outK P [.tmp t, .tmp u].toArray k .ret rg h = opt (T.get rg t) fun v => opt (T.get rg u) fun w => k (.tu (.c v (.c w .e))) h := nrfl rfl
theorem out_n (P : Program) (rg : T AV) (h : AH) (k : AV → R) : outOf P rg h [] k = k .e := nrfl rfl
theorem out_t (P : Program) (rg : T AV) (h : AH) (t : Nat) (l : List ResultVar) (k : AV → R) : outOf P rg h (.tmp t :: l) k = opt (T.get rg t) fun v => outOf P rg h l fun l => k (.c v l) := nrfl rfl
theorem outV_e (k : AV → R) : outV .e k = k (.tu .e) := nrfl rfl
theorem outV_1 (x : AV) (k : AV → R) : outV (.c x .e) k = k x := nrfl rfl
theorem outV_2 (x y l : AV) (k : AV → R) : outV (.c x (.c y l)) k = k (.tu (.c x (.c y l))) := nrfl rfl
end Go.Proofs.YtcnallabiffemaaGreatDoor.Vm
