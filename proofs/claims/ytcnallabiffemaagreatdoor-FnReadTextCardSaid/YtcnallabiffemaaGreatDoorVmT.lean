/- The abstract machine's equations with their continuations held back, and the program's types. Conditions: none. -/
import Derived.Test.YtcnallabiffemaaGreatDoorVmS
namespace Go.Proofs.YtcnallabiffemaaGreatDoor.Vm
open Go

/-- A token that keeps simp out of the argument that it names. -/
structure Tok {α : Type} (a : α) : Type where
section
noncomputable def gt (rg : T AV) (t : Nat) (k : AV → R) (_ : Tok k) : R := opt (T.get rg t) k
noncomputable def chk (b : Bool) (k : R) (_ : Tok k) : R := when b k
noncomputable def br (b : Bool) (x y : R) (_ : Tok (x, y)) : R := if b = true then x else y
noncomputable def sv (v : AV) (k : AV → R) (_ : Tok k) : R := k v
noncomputable def nt1 (n : Int) (k : Nat → R) (_ : Tok k) : R := nat2 n 0 (fun m _ => k m) none
noncomputable def ix (v : AV) (m : Nat) (k : AV → R) (_ : Tok k) : R := onSl v (fun id off len _ => when (decide (m < len)) (k (.p id (off + m)))) (fun id len => when (decide (m < len)) (k (.p id m))) none
noncomputable def ixA (sz : Nat) (v : AV) (m : Nat) (k : AV → R) (_ : Tok k) : R := onSl v (fun id off len _ => when (decide (m < len)) (k (.p id (off + m * sz)))) (fun _ _ => none) none
noncomputable def idx (s : ByteArray) (m : Nat) (k : AV → R) (_ : Tok k) : R := opt (s[m]?) fun b => k (.i .u8 (b.toNat : Int))
noncomputable def ld (h : AH) (v : AV) (k : AV → R) (_ : Tok k) : R := onP v fun id off => opt (T.get h.objs id) fun o => opt (AO.at o off) k
noncomputable def ldA (sz : Nat) (h : AH) (v : AV) (k : AV → R) (_ : Tok k) : R := onP v fun id off => opt (T.get h.objs id) fun o => takeL o sz off fun l => k (.ag l)
noncomputable def sto (h : AH) (p v : AV) (k : AH → R) (_ : Tok k) : R := onP p fun id off => opt (T.get h.objs id) fun o => onCells o fun e size cs => when (scalar v) (when (decide (off < size)) (k ⟨T.put h.objs id (.cells e size (T.put cs off v)), h.next⟩))
noncomputable def ln (t : Nat) (v : AV) (k : AV → R) (_ : Tok k) : R := onLen v (fun x => when (isStr Tryz.prog t) (k (.i .i64 (x.size : Int)))) (fun _ _ len _ => opt (elemOf Tryz.prog t) fun _ => k (.i .i64 (len : Int))) (fun _ len => opt (elemOf Tryz.prog t) fun _ => k (.i .i64 (len : Int))) (opt (elemOf Tryz.prog t) fun _ => k (.i .i64 0))
noncomputable def cl (P : Program) (ex : Runner) (q : Bool) (f : Nat) (l : AV) (h : AH) (k : AV → AH → R) (_ : Tok k) : R := callAt P ex q f l h k
noncomputable def lp (P : Program) (m : Nat) (q : Bool) (nt : Nat) (c : Code) (rg : T AV) (h : AH) (k : AX → T AV → AH → R) (_ : Tok (c, rg, h, k)) : R := exec P m q nt (.loop c) rg h k
noncomputable def apW (P : Program) (nt : Nat) (rg : T AV) (h : AH) (dst : Option Tmp) (kk : T AV → AH → R) (t t' : Nat) (x y : Operand) (_ : Tok (rg, h, kk)) : R := wAppend P nt rg h dst kk t t' x y
noncomputable def cvW (P : Program) (nt : Nat) (rg : T AV) (h : AH) (dst : Option Tmp) (kk : T AV → AH → R) (s d : Nat) (x : Operand) (_ : Tok (rg, h, kk)) : R := wConv P nt rg h dst kk s d x
noncomputable def anyW (X : R) (_ : Tok X) : R := X
noncomputable def drW (P : Program) (ex : Runner) (q : Bool) (nt : Nat) (rg : T AV) (h : AH) (k : AX → T AV → AH → R) (l : List Oper) (_ : Tok (rg, h, k, l)) : R := rDraw P ex q nt rg h k l.toArray
end
section
variable (rg : T AV) (k : AV → R)
theorem gt_put (d t : Nat) (v : AV) (w : Tok k) : gt (T.put rg d v) t k w = if t = d then k v else gt rg t k w := by
  unfold gt
  rw [get_put]
  by_cases e : t = d
  · rw [if_pos e, if_pos e]; rfl
  · rw [if_neg e, if_neg e]
theorem gt_of {rg : T AV} {t : Nat} {v : AV} (h : T.get rg t = some v) (k : AV → R) (w : Tok k) : gt rg t k w = k v := by unfold gt; rw [h]; rfl
theorem oe_gt (t : Nat) : oe rg (.tmp t) k = gt rg t k ⟨⟩ := nrfl rfl
theorem chk_t (r : R) (w : Tok r) : chk true r w = r := nrfl rfl
theorem chk_of (p : Prop) [Decidable p] (hp : p) (r : R) (w : Tok r) : chk (decide p) r w = r := by unfold chk; rw [decide_eq_true hp]; rfl
theorem br_t (x y : R) (w : Tok (x, y)) : br true x y w = x := nrfl rfl
theorem br_f (x y : R) (w : Tok (x, y)) : br false x y w = y := nrfl rfl
theorem sv_v (v : AV) (w : Tok k) : sv v k w = k v := nrfl rfl
theorem nt1_n (k : Nat → R) (w : Tok k) (m : Nat) : nt1 (m : Int) k w = k m := nrfl rfl
theorem nt1_l (k : Nat → R) (w : Tok k) (m : Nat) : nt1 (OfNat.ofNat m) k w = k m := nrfl rfl
theorem ix_sl (id off len cap m : Nat) (w : Tok k) : ix (.sl id off len cap) m k w = chk (decide (m < len)) (k (.p id (off + m))) ⟨⟩ := nrfl rfl
theorem ix_g (id len m : Nat) (w : Tok k) : ix (.g id len) m k w = chk (decide (m < len)) (k (.p id m)) ⟨⟩ := nrfl rfl
theorem ixA_sl (sz id off len cap m : Nat) (w : Tok k) : ixA sz (.sl id off len cap) m k w = chk (decide (m < len)) (k (.p id (off + m * sz))) ⟨⟩ := nrfl rfl
theorem in_len (rg : T AV) (k : AV → R) (x : Operand) (t : Nat) : pLen Tryz.prog rg k x t = oe rg x fun v => ln t v k ⟨⟩ := pLen_n Tryz.prog rg k x t
theorem ld_p (h : AH) (id off : Nat) (w : Tok k) (o : AO) (h1 : T.get h.objs id = some o) (v : AV) (h2 : AO.at o off = some v) : ld h (.p id off) k w = k v := by unfold ld; rw [show onP (.p id off) (fun id off => opt (T.get h.objs id) fun o => opt (AO.at o off) k) = opt (T.get h.objs id) fun o => opt (AO.at o off) k from rfl, h1, opt_s, h2, opt_s]
end
section
variable (P : Program) (m : Nat) (ex : Runner) (q : Bool) (nt : Nat) (rg : T AV) (h : AH) (k : AX → T AV → AH → R)
theorem exs_seq (a b : Code) : exec P (m + 1) q nt (.seq a b) rg h k = exec P m q nt a rg h (kSeq (exec P m) q nt b k) := nrfl rfl
theorem exs_ret : exec P (m + 1) q nt .ret rg h k = k .ret rg h := nrfl rfl
theorem exs_skip : exec P (m + 1) q nt .skip rg h k = k .normal rg h := nrfl rfl
theorem exs_exit (id : Nat) : exec P (m + 1) q nt (.exit id) rg h k = k (.exit id) rg h := nrfl rfl
theorem exs_region (id : Nat) (l : List Oper) : exec P (m + 1) false nt (.region id l.toArray false) rg h k = execOps P nt (callAt P (exec P m) false) l.toArray l rg h fun rg h => k .normal rg h := nrfl rfl
theorem exs_regionQ (id : Nat) (l : List Oper) : exec P (m + 1) true nt (.region id l.toArray false) rg h k = execQ P nt (callAt P (exec P m) true) l.toArray h l rg fun rg => k .normal rg h := nrfl rfl
theorem exs_draw (id : Nat) (l : List Oper) : exec P (m + 1) q nt (.region id l.toArray true) rg h k = drW P (exec P m) q nt rg h k l ⟨⟩ := nrfl rfl
theorem exs_cond (c : Operand) (a b : Code) : exec P (m + 1) q nt (.cond c a b) rg h k = oe rg c fun v => onB v fun t => br t (exec P m q nt a rg h k) (exec P m q nt b rg h k) ⟨⟩ := cs_cond P (exec P m) q nt rg h k c a b
theorem exs_block (id : Nat) (c : Code) : exec P (m + 1) q nt (.block id c) rg h k = exec P m q nt c rg h (kBlock id k) := nrfl rfl
theorem exs_loop (c : Code) : exec P (m + 1) q nt (.loop c) rg h k = lp P (m + 1) q nt c rg h k ⟨⟩ := nrfl rfl
theorem wantB_bt (y : Bool) (yes no : R) : wantB (.b y) true yes no = br y yes no ⟨⟩ := by cases y <;> rfl
theorem wantB_bf (y : Bool) (yes no : R) : wantB (.b y) false yes no = br y no yes ⟨⟩ := by cases y <;> rfl
theorem wantP_gt (d : Nat) (x : Bool) (yes no : R) : wantP rg d x yes no = gt rg d (fun v => wantB v x yes no) ⟨⟩ := nrfl rfl
theorem out0_r (P : Program) (k : AV → AH → R) (rg : T AV) (h : AH) : outK P [].toArray k .ret rg h = k (.tu .e) h := nrfl rfl
theorem out0_n (P : Program) (k : AV → AH → R) (rg : T AV) (h : AH) : outK P [].toArray k .normal rg h = k (.tu .e) h := nrfl rfl
theorem out1_g (P : Program) (k : AV → AH → R) (rg : T AV) (h : AH) (t : Nat) : outK P [.tmp t].toArray k .ret rg h = gt rg t (fun v => k v h) ⟨⟩ := nrfl rfl
theorem out2_g (P : Program) (k : AV → AH → R) (rg : T AV) (h : AH) (t u : Nat) : outK P [.tmp t, .tmp u].toArray k .ret rg h = gt rg t (fun v => gt rg u (fun w => k (.tu (.c v (.c w .e))) h) ⟨⟩) ⟨⟩ := nrfl rfl
theorem out3_g (P : Program) (k : AV → AH → R) (rg : T AV) (h : AH) (t u x : Nat) : outK P [.tmp t, .tmp u, .tmp x].toArray k .ret rg h = gt rg t (fun v => gt rg u (fun w => gt rg x (fun z => k (.tu (.c v (.c w (.c z .e)))) h) ⟨⟩) ⟨⟩) ⟨⟩ := nrfl rfl
theorem out4_g (P : Program) (k : AV → AH → R) (rg : T AV) (h : AH) (t u x y : Nat) : outK P [.tmp t, .tmp u, .tmp x, .tmp y].toArray k .ret rg h = gt rg t (fun v => gt rg u (fun w => gt rg x (fun z => gt rg y (fun a => k (.tu (.c v (.c w (.c z (.c a .e))))) h) ⟨⟩) ⟨⟩) ⟨⟩) ⟨⟩ := nrfl rfl
end
section
variable (P : Program) (nt : Nat) (ex : Runner) (q : Bool) (call : Caller) (rg : T AV) (h : AH) (dst : Option Tmp) (k : T AV → AH → R) (kq : T AV → R) (kv : AV → R)
theorem set_s (d : Nat) (v : AV) : setR nt rg (some d) v kq = sv v (fun v => chk (decide (d < nt)) (kq (T.put rg d v)) ⟨⟩) ⟨⟩ := by rw [setR_s, blt_eq]; rfl
theorem go_fun (f : Nat) (args : List Operand) (ts : Array Nat) : opGo P nt (callAt P ex q) rg h dst k (.call ⟨.value (.func f), args.toArray, ts⟩) = oes rg args fun l => appK l .e fun l => cl P ex q f l h (fun v h => setR nt rg dst v fun rg => k rg h) ⟨⟩ := nrfl rfl
theorem q_fun (f : Nat) (args : List Operand) (ts : Array Nat) : qGo P nt (callAt P ex true) rg h dst kq (.call ⟨.value (.func f), args.toArray, ts⟩) = oes rg args fun l => appK l .e fun l => opt (cl P ex true f l h (fun v h => some (v, h)) ⟨⟩) fun vh => setR nt rg dst vh.1 kq := nrfl rfl
theorem go_val (t : Nat) (args : List Operand) (ts : Array Nat) : opGo P nt (callAt P ex q) rg h dst k (.call ⟨.value (.tmp t), args.toArray, ts⟩) = gt rg t (fun v => onF v fun f caps => oes rg args fun l => appK l caps fun l => cl P ex q f l h (fun v h => setR nt rg dst v fun rg => k rg h) ⟨⟩) ⟨⟩ := nrfl rfl
theorem go_inv (x : Operand) (name : String) (args : List Operand) (ts : Array Nat) : opGo P nt (callAt P ex q) rg h dst k (.call ⟨.invoke x name, args.toArray, ts⟩) = oe rg x fun v => onIt v fun t v => opt (methodOf P t name) fun f => oes rg args fun l => cl P ex q f (.c v l) h (fun v h => setR nt rg dst v fun rg => k rg h) ⟨⟩ := nrfl rfl
theorem go_app (x y : Operand) (t t' : Nat) : opGo P nt call rg h dst k (.call ⟨.builtin .append, #[x, y], #[t, t']⟩) = apW P nt rg h dst k t t' x y ⟨⟩ := nrfl rfl
theorem pPick_br (c x y : Operand) : pPick rg kv c x y = oe rg c fun v => onB v fun t => br t (oe rg x kv) (oe rg y kv) ⟨⟩ := pPick_if rg kv c x y
theorem pNil_n (x : Operand) : pNil rg kv x = oe rg x fun v => onNc v kv := nrfl rfl
theorem pExt_n (x : Operand) (i : Nat) : pExt rg kv x i = oe rg x fun v => onTu v fun l => nth kv i l := nrfl rfl
theorem pIface_n (t : Nat) (x : Operand) : pIface P rg kv t x = oe rg x fun v => when (noIface P t) (kv (.it t v)) := nrfl rfl
theorem pFunc_n (f : Nat) (l : List Operand) : pFunc rg kv (.func f) #[] l.toArray = oes rg l fun l => kv (.f f l) := nrfl rfl
theorem eqNil_sl (op : BinOp) (a b c d : Nat) : eqNil kv op (.sl a b c d) .ns = eqK op false kv := nrfl rfl
theorem eqNil_g (op : BinOp) (a b : Nat) : eqNil kv op (.g a b) .ns = eqK op false kv := nrfl rfl
theorem eqNil_ns (op : BinOp) : eqNil kv op .ns .ns = eqK op true kv := nrfl rfl
theorem nat1_t (n : Int) (f : Nat → R) : nat2 n 0 (fun m _ => f m) none = nt1 n f ⟨⟩ := nrfl rfl
end

theorem ty_sl2 : isSlice Tryz.prog 2 = false := by kernel_rfl
theorem ty_sl3 : isSlice Tryz.prog 3 = false := by kernel_rfl
theorem ty_sl4 : isSlice Tryz.prog 4 = false := by kernel_rfl
theorem ty_sl5 : isSlice Tryz.prog 5 = false := by kernel_rfl
theorem ty_sl9 : isSlice Tryz.prog 9 = false := by kernel_rfl
theorem ty_sl20 : isSlice Tryz.prog 20 = false := by kernel_rfl
theorem ty_sl21 : isSlice Tryz.prog 21 = false := by kernel_rfl
theorem ty_sl48 : isSlice Tryz.prog 48 = false := by kernel_rfl
theorem ty_sl53 : isSlice Tryz.prog 53 = false := by kernel_rfl
theorem ty_sl67 : isSlice Tryz.prog 67 = false := by kernel_rfl
theorem ty_sl102 : isSlice Tryz.prog 102 = false := by kernel_rfl
theorem ty_sl103 : isSlice Tryz.prog 103 = false := by kernel_rfl
theorem ty_sl22 : isSlice Tryz.prog 22 = true := by kernel_rfl
theorem ty_sl42 : isSlice Tryz.prog 42 = true := by kernel_rfl
theorem ty_one3 : one Tryz.prog 3 = true := by kernel_rfl
theorem ty_one4 : one Tryz.prog 4 = true := by kernel_rfl
theorem ty_one5 : one Tryz.prog 5 = true := by kernel_rfl
theorem ty_one9 : one Tryz.prog 9 = true := by kernel_rfl
theorem ty_one22 : one Tryz.prog 22 = true := by kernel_rfl
theorem ty_one42 : one Tryz.prog 42 = true := by kernel_rfl
theorem ty_one34 : one Tryz.prog 34 = true := by kernel_rfl
theorem ty_one65 : one Tryz.prog 65 = true := by kernel_rfl
theorem ty_el22 : elemOf Tryz.prog 22 = some 3 := by kernel_rfl
theorem ty_el42 : elemOf Tryz.prog 42 = some 5 := by kernel_rfl
theorem ty_el34 : elemOf Tryz.prog 34 = some 42 := by kernel_rfl
theorem ty_str9 : isStr Tryz.prog 9 = true := by kernel_rfl
theorem ty_z3 : zero1 Tryz.prog 3 = some (.i .i64 0) := by kernel_rfl
theorem ty_z5 : zero1 Tryz.prog 5 = some (.i .u8 0) := by kernel_rfl
theorem ty_z42 : zero1 Tryz.prog 42 = some (.ns) := by kernel_rfl
theorem ty_z9 : zero1 Tryz.prog 9 = some (.s ⟨#[]⟩) := by kernel_rfl
theorem ty_z4 : zero1 Tryz.prog 4 = some (.b false) := by kernel_rfl
theorem ty_z22 : zero1 Tryz.prog 22 = some (.ns) := by kernel_rfl
theorem ty_os3 : (one Tryz.prog 3 && small Tryz.prog 3) = true := by kernel_rfl
theorem ty_os5 : (one Tryz.prog 5 && small Tryz.prog 5) = true := by kernel_rfl
theorem ty_os42 : (one Tryz.prog 42 && small Tryz.prog 42) = true := by kernel_rfl
theorem ty_i3_5 : Vm.intOf Tryz.prog 3 5 = some .u8 := by kernel_rfl
theorem ty_i5_3 : Vm.intOf Tryz.prog 5 3 = some .i64 := by kernel_rfl
theorem ty_i3_103 : Vm.intOf Tryz.prog 3 103 = some .u64 := by kernel_rfl
theorem ty_i5_21 : Vm.intOf Tryz.prog 5 21 = some .i32 := by kernel_rfl
theorem ty_i21_102 : Vm.intOf Tryz.prog 21 102 = some .u32 := by kernel_rfl
theorem ty_i21_5 : Vm.intOf Tryz.prog 21 5 = some .u8 := by kernel_rfl
theorem ty_i2_3 : Vm.intOf Tryz.prog 2 3 = some .i64 := by kernel_rfl
theorem ty_i3_2 : Vm.intOf Tryz.prog 3 2 = some .i64 := by kernel_rfl
theorem ty_fo0 : fieldOff Tryz.prog 108 0 = some 0 := by kernel_rfl
theorem ty_fo1 : fieldOff Tryz.prog 108 1 = some 1 := by kernel_rfl
theorem ty_fo2 : fieldOff Tryz.prog 108 2 = some 2 := by kernel_rfl
theorem ty_ifc48 : isIface (Tryz.prog.underlying 48) = true := by kernel_rfl
theorem ln_s9 (x : ByteArray) (k : AV → R) (w : Tok k) : ln 9 (.s x) k w = k (.i .i64 (x.size : Int)) := by unfold ln; rw [onLen_s, ty_str9, when_t]
theorem ln_sl22 (a b c d : Nat) (k : AV → R) (w : Tok k) : ln 22 (.sl a b c d) k w = k (.i .i64 (c : Int)) := by unfold ln; rw [onLen_sl, ty_el22, opt_s]
theorem ln_g22 (a b : Nat) (k : AV → R) (w : Tok k) : ln 22 (.g a b) k w = k (.i .i64 (b : Int)) := by unfold ln; rw [onLen_g, ty_el22, opt_s]
theorem ln_n22 (k : AV → R) (w : Tok k) : ln 22 .ns k w = k (.i .i64 0) := by unfold ln; rw [onLen_ns, ty_el22, opt_s]
theorem ln_sl42 (a b c d : Nat) (k : AV → R) (w : Tok k) : ln 42 (.sl a b c d) k w = k (.i .i64 (c : Int)) := by unfold ln; rw [onLen_sl, ty_el42, opt_s]
theorem ln_g42 (a b : Nat) (k : AV → R) (w : Tok k) : ln 42 (.g a b) k w = k (.i .i64 (b : Int)) := by unfold ln; rw [onLen_g, ty_el42, opt_s]
theorem ln_n42 (k : AV → R) (w : Tok k) : ln 42 .ns k w = k (.i .i64 0) := by unfold ln; rw [onLen_ns, ty_el42, opt_s]
theorem ln_sl34 (a b c d : Nat) (k : AV → R) (w : Tok k) : ln 34 (.sl a b c d) k w = k (.i .i64 (c : Int)) := by unfold ln; rw [onLen_sl, ty_el34, opt_s]
theorem ln_g34 (a b : Nat) (k : AV → R) (w : Tok k) : ln 34 (.g a b) k w = k (.i .i64 (b : Int)) := by unfold ln; rw [onLen_g, ty_el34, opt_s]
theorem ln_n34 (k : AV → R) (w : Tok k) : ln 34 .ns k w = k (.i .i64 0) := by unfold ln; rw [onLen_ns, ty_el34, opt_s]
theorem isC_c (v : Value) : isC (.const v) = true := nrfl rfl
theorem isC_t (t : Nat) : isC (.tmp t) = false := nrfl rfl
theorem scalar_b (x : Bool) : scalar (.b x) = true := rfl
theorem scalar_i (kd : IntKind) (n : Int) : scalar (.i kd n) = true := rfl
theorem scalar_s (x : ByteArray) : scalar (.s x) = true := rfl
theorem scalar_p (a b : Nat) : scalar (.p a b) = true := rfl
theorem scalar_sl (a b c d : Nat) : scalar (.sl a b c d) = true := rfl
theorem scalar_g (a b : Nat) : scalar (.g a b) = true := rfl
theorem scalar_ns : scalar .ns = true := nrfl rfl
theorem chk_sc (v : AV) (hv : scalar v = true) (r : R) (w : Tok r) : chk (scalar v) r w = r := by unfold chk; rw [hv]; rfl
section
variable (nt : Nat) (rg : T AV) (h : AH) (dst : Option Tmp) (k : AV → R) (kk : T AV → AH → R) (x y : Operand)
theorem in_bin2 (op : BinOp) : pBin Tryz.prog rg k op 2 x y = oe rg x fun a => oe rg y fun b => bop Tryz.prog op 2 (isC x || isC y) a b k := pBin_n _ _ _ _ _ _ _ ty_sl2
theorem in_bin3 (op : BinOp) : pBin Tryz.prog rg k op 3 x y = oe rg x fun a => oe rg y fun b => bop Tryz.prog op 3 (isC x || isC y) a b k := pBin_n _ _ _ _ _ _ _ ty_sl3
theorem in_bin4 (op : BinOp) : pBin Tryz.prog rg k op 4 x y = oe rg x fun a => oe rg y fun b => bop Tryz.prog op 4 (isC x || isC y) a b k := pBin_n _ _ _ _ _ _ _ ty_sl4
theorem in_bin5 (op : BinOp) : pBin Tryz.prog rg k op 5 x y = oe rg x fun a => oe rg y fun b => bop Tryz.prog op 5 (isC x || isC y) a b k := pBin_n _ _ _ _ _ _ _ ty_sl5
theorem in_bin9 (op : BinOp) : pBin Tryz.prog rg k op 9 x y = oe rg x fun a => oe rg y fun b => bop Tryz.prog op 9 (isC x || isC y) a b k := pBin_n _ _ _ _ _ _ _ ty_sl9
theorem in_bin20 (op : BinOp) : pBin Tryz.prog rg k op 20 x y = oe rg x fun a => oe rg y fun b => bop Tryz.prog op 20 (isC x || isC y) a b k := pBin_n _ _ _ _ _ _ _ ty_sl20
theorem in_bin21 (op : BinOp) : pBin Tryz.prog rg k op 21 x y = oe rg x fun a => oe rg y fun b => bop Tryz.prog op 21 (isC x || isC y) a b k := pBin_n _ _ _ _ _ _ _ ty_sl21
theorem in_bin48 (op : BinOp) : pBin Tryz.prog rg k op 48 x y = oe rg x fun a => oe rg y fun b => bop Tryz.prog op 48 (isC x || isC y) a b k := pBin_n _ _ _ _ _ _ _ ty_sl48
theorem in_bin53 (op : BinOp) : pBin Tryz.prog rg k op 53 x y = oe rg x fun a => oe rg y fun b => bop Tryz.prog op 53 (isC x || isC y) a b k := pBin_n _ _ _ _ _ _ _ ty_sl53
theorem in_bin67 (op : BinOp) : pBin Tryz.prog rg k op 67 x y = oe rg x fun a => oe rg y fun b => bop Tryz.prog op 67 (isC x || isC y) a b k := pBin_n _ _ _ _ _ _ _ ty_sl67
theorem in_bin102 (op : BinOp) : pBin Tryz.prog rg k op 102 x y = oe rg x fun a => oe rg y fun b => bop Tryz.prog op 102 (isC x || isC y) a b k := pBin_n _ _ _ _ _ _ _ ty_sl102
theorem in_bin103 (op : BinOp) : pBin Tryz.prog rg k op 103 x y = oe rg x fun a => oe rg y fun b => bop Tryz.prog op 103 (isC x || isC y) a b k := pBin_n _ _ _ _ _ _ _ ty_sl103
theorem in_bin22 (op : BinOp) : pBin Tryz.prog rg k op 22 x y = oe rg x fun a => oe rg y fun b => eqNil k op a b := pBin_s _ _ _ _ _ _ _ ty_sl22
theorem in_bin42 (op : BinOp) : pBin Tryz.prog rg k op 42 x y = oe rg x fun a => oe rg y fun b => eqNil k op a b := pBin_s _ _ _ _ _ _ _ ty_sl42
theorem in_conv3_5 : pConv Tryz.prog rg k 3 5 x = oe rg x fun v => onI v fun _ n => k (.i .u8 (IntKind.u8.wrap n)) := pConv_n _ _ _ _ _ _ _ ty_i3_5
theorem in_wconv3_5 : wConv Tryz.prog nt rg h dst kk 3 5 x = oe rg x fun v => onI v fun _ n => setR nt rg dst (.i .u8 (IntKind.u8.wrap n)) fun rg => kk rg h := wConv_n _ _ _ _ _ _ _ _ _ _ ty_i3_5
theorem in_conv5_3 : pConv Tryz.prog rg k 5 3 x = oe rg x fun v => onI v fun _ n => k (.i .i64 (IntKind.i64.wrap n)) := pConv_n _ _ _ _ _ _ _ ty_i5_3
theorem in_wconv5_3 : wConv Tryz.prog nt rg h dst kk 5 3 x = oe rg x fun v => onI v fun _ n => setR nt rg dst (.i .i64 (IntKind.i64.wrap n)) fun rg => kk rg h := wConv_n _ _ _ _ _ _ _ _ _ _ ty_i5_3
theorem in_conv3_103 : pConv Tryz.prog rg k 3 103 x = oe rg x fun v => onI v fun _ n => k (.i .u64 (IntKind.u64.wrap n)) := pConv_n _ _ _ _ _ _ _ ty_i3_103
theorem in_wconv3_103 : wConv Tryz.prog nt rg h dst kk 3 103 x = oe rg x fun v => onI v fun _ n => setR nt rg dst (.i .u64 (IntKind.u64.wrap n)) fun rg => kk rg h := wConv_n _ _ _ _ _ _ _ _ _ _ ty_i3_103
theorem in_conv5_21 : pConv Tryz.prog rg k 5 21 x = oe rg x fun v => onI v fun _ n => k (.i .i32 (IntKind.i32.wrap n)) := pConv_n _ _ _ _ _ _ _ ty_i5_21
theorem in_wconv5_21 : wConv Tryz.prog nt rg h dst kk 5 21 x = oe rg x fun v => onI v fun _ n => setR nt rg dst (.i .i32 (IntKind.i32.wrap n)) fun rg => kk rg h := wConv_n _ _ _ _ _ _ _ _ _ _ ty_i5_21
theorem in_conv21_102 : pConv Tryz.prog rg k 21 102 x = oe rg x fun v => onI v fun _ n => k (.i .u32 (IntKind.u32.wrap n)) := pConv_n _ _ _ _ _ _ _ ty_i21_102
theorem in_wconv21_102 : wConv Tryz.prog nt rg h dst kk 21 102 x = oe rg x fun v => onI v fun _ n => setR nt rg dst (.i .u32 (IntKind.u32.wrap n)) fun rg => kk rg h := wConv_n _ _ _ _ _ _ _ _ _ _ ty_i21_102
theorem in_conv21_5 : pConv Tryz.prog rg k 21 5 x = oe rg x fun v => onI v fun _ n => k (.i .u8 (IntKind.u8.wrap n)) := pConv_n _ _ _ _ _ _ _ ty_i21_5
theorem in_wconv21_5 : wConv Tryz.prog nt rg h dst kk 21 5 x = oe rg x fun v => onI v fun _ n => setR nt rg dst (.i .u8 (IntKind.u8.wrap n)) fun rg => kk rg h := wConv_n _ _ _ _ _ _ _ _ _ _ ty_i21_5
theorem in_conv2_3 : pConv Tryz.prog rg k 2 3 x = oe rg x fun v => onI v fun _ n => k (.i .i64 (IntKind.i64.wrap n)) := pConv_n _ _ _ _ _ _ _ ty_i2_3
theorem in_wconv2_3 : wConv Tryz.prog nt rg h dst kk 2 3 x = oe rg x fun v => onI v fun _ n => setR nt rg dst (.i .i64 (IntKind.i64.wrap n)) fun rg => kk rg h := wConv_n _ _ _ _ _ _ _ _ _ _ ty_i2_3
theorem in_conv3_2 : pConv Tryz.prog rg k 3 2 x = oe rg x fun v => onI v fun _ n => k (.i .i64 (IntKind.i64.wrap n)) := pConv_n _ _ _ _ _ _ _ ty_i3_2
theorem in_wconv3_2 : wConv Tryz.prog nt rg h dst kk 3 2 x = oe rg x fun v => onI v fun _ n => setR nt rg dst (.i .i64 (IntKind.i64.wrap n)) fun rg => kk rg h := wConv_n _ _ _ _ _ _ _ _ _ _ ty_i3_2
theorem in_field0 : pField Tryz.prog rg k 108 x 0 = oe rg x fun v => onP v fun id off => k (.p id (off + 0)) := pField_n _ _ _ _ _ _ _ ty_fo0
theorem in_field1 : pField Tryz.prog rg k 108 x 1 = oe rg x fun v => onP v fun id off => k (.p id (off + 1)) := pField_n _ _ _ _ _ _ _ ty_fo1
theorem in_field2 : pField Tryz.prog rg k 108 x 2 = oe rg x fun v => onP v fun id off => k (.p id (off + 2)) := pField_n _ _ _ _ _ _ _ ty_fo2
theorem in_index22 : pIndex Tryz.prog rg k 22 x y = oe rg x fun v => oe rg y fun w => onI w fun _ n => nt1 n (fun m => ix v m k ⟨⟩) ⟨⟩ := pIndex_n _ _ _ _ _ _ _ ty_el22 ty_one3
theorem in_index42 : pIndex Tryz.prog rg k 42 x y = oe rg x fun v => oe rg y fun w => onI w fun _ n => nt1 n (fun m => ix v m k ⟨⟩) ⟨⟩ := pIndex_n _ _ _ _ _ _ _ ty_el42 ty_one5
theorem in_index34 : pIndex Tryz.prog rg k 34 x y = oe rg x fun v => oe rg y fun w => onI w fun _ n => nt1 n (fun m => ix v m k ⟨⟩) ⟨⟩ := pIndex_n _ _ _ _ _ _ _ ty_el34 ty_one42
theorem in_idx9 : pIdx Tryz.prog rg k 9 x y = oe rg x fun v => oe rg y fun w => onS v fun s => onI w fun _ n => nt1 n (fun m => idx s m k ⟨⟩) ⟨⟩ := pIdx_n _ _ _ _ _ _ ty_str9
noncomputable def subS (s : ByteArray) (i j : Int) (k : AV → R) (_ : Tok k) : R := nat2 i j (fun i j => when (decide (i ≤ j)) (when (decide (j ≤ s.size)) (k (.s (s.extract i j))))) none
theorem in_sub9 (z : Operand) : pSub Tryz.prog rg k 9 x (some y) (some z) = oe rg x fun v => onS v fun s => oe rg y fun i => oe rg z fun j => onI i fun _ i => onI j fun _ j => subS s i j k ⟨⟩ := pSub_n _ _ _ _ _ _ _ ty_str9
theorem in_load3 : loadV Tryz.prog rg h 3 x k = oe rg x fun v => ld h v k ⟨⟩ := loadV_n _ _ _ _ _ _ ty_one3
theorem in_store3 : wStore Tryz.prog nt rg h dst kk 3 x y = oe rg x fun p => oe rg y fun v => sto h p v (fun h => setR nt rg dst (.tu .e) fun rg => kk rg h) ⟨⟩ := wStore_n _ _ _ _ _ _ _ _ _ ty_one3
theorem in_load4 : loadV Tryz.prog rg h 4 x k = oe rg x fun v => ld h v k ⟨⟩ := loadV_n _ _ _ _ _ _ ty_one4
theorem in_store4 : wStore Tryz.prog nt rg h dst kk 4 x y = oe rg x fun p => oe rg y fun v => sto h p v (fun h => setR nt rg dst (.tu .e) fun rg => kk rg h) ⟨⟩ := wStore_n _ _ _ _ _ _ _ _ _ ty_one4
theorem in_load5 : loadV Tryz.prog rg h 5 x k = oe rg x fun v => ld h v k ⟨⟩ := loadV_n _ _ _ _ _ _ ty_one5
theorem in_store5 : wStore Tryz.prog nt rg h dst kk 5 x y = oe rg x fun p => oe rg y fun v => sto h p v (fun h => setR nt rg dst (.tu .e) fun rg => kk rg h) ⟨⟩ := wStore_n _ _ _ _ _ _ _ _ _ ty_one5
theorem in_load9 : loadV Tryz.prog rg h 9 x k = oe rg x fun v => ld h v k ⟨⟩ := loadV_n _ _ _ _ _ _ ty_one9
theorem in_store9 : wStore Tryz.prog nt rg h dst kk 9 x y = oe rg x fun p => oe rg y fun v => sto h p v (fun h => setR nt rg dst (.tu .e) fun rg => kk rg h) ⟨⟩ := wStore_n _ _ _ _ _ _ _ _ _ ty_one9
theorem in_load22 : loadV Tryz.prog rg h 22 x k = oe rg x fun v => ld h v k ⟨⟩ := loadV_n _ _ _ _ _ _ ty_one22
theorem in_store22 : wStore Tryz.prog nt rg h dst kk 22 x y = oe rg x fun p => oe rg y fun v => sto h p v (fun h => setR nt rg dst (.tu .e) fun rg => kk rg h) ⟨⟩ := wStore_n _ _ _ _ _ _ _ _ _ ty_one22
theorem in_load42 : loadV Tryz.prog rg h 42 x k = oe rg x fun v => ld h v k ⟨⟩ := loadV_n _ _ _ _ _ _ ty_one42
theorem in_store42 : wStore Tryz.prog nt rg h dst kk 42 x y = oe rg x fun p => oe rg y fun v => sto h p v (fun h => setR nt rg dst (.tu .e) fun rg => kk rg h) ⟨⟩ := wStore_n _ _ _ _ _ _ _ _ _ ty_one42
theorem in_load34 : loadV Tryz.prog rg h 34 x k = oe rg x fun v => ld h v k ⟨⟩ := loadV_n _ _ _ _ _ _ ty_one34
theorem in_store34 : wStore Tryz.prog nt rg h dst kk 34 x y = oe rg x fun p => oe rg y fun v => sto h p v (fun h => setR nt rg dst (.tu .e) fun rg => kk rg h) ⟨⟩ := wStore_n _ _ _ _ _ _ _ _ _ ty_one34
theorem in_load65 : loadV Tryz.prog rg h 65 x k = oe rg x fun v => ld h v k ⟨⟩ := loadV_n _ _ _ _ _ _ ty_one65
theorem in_store65 : wStore Tryz.prog nt rg h dst kk 65 x y = oe rg x fun p => oe rg y fun v => sto h p v (fun h => setR nt rg dst (.tu .e) fun rg => kk rg h) ⟨⟩ := wStore_n _ _ _ _ _ _ _ _ _ ty_one65
theorem in_lit1_22 : wBuild Tryz.prog nt rg h dst kk 22 1 #[(0, x)] = oe rg x fun v => sv v (fun v => chk (scalar v) (setR nt rg dst (.sl h.next 0 1 1) fun rg => kk rg ⟨T.put h.objs h.next (.cells 3 1 (T.put (T.full (some (.i .i64 0)) depthC) 0 v)), h.next + 1⟩) ⟨⟩) ⟨⟩ := wBuild_1 _ _ _ _ _ _ _ _ _ _ ty_el22 ty_one3 ty_z3
theorem in_lit2_22 : wBuild Tryz.prog nt rg h dst kk 22 2 #[(0, x), (1, y)] = oe rg x fun v => sv v (fun v => chk (scalar v) (oe rg y fun u => sv u (fun u => chk (scalar u) (setR nt rg dst (.sl h.next 0 2 2) fun rg => kk rg ⟨T.put h.objs h.next (.cells 3 2 (T.put (T.put (T.full (some (.i .i64 0)) depthC) 0 v) 1 u)), h.next + 1⟩) ⟨⟩) ⟨⟩) ⟨⟩) ⟨⟩ := wBuild_2 _ _ _ _ _ _ _ _ _ _ _ ty_el22 ty_one3 ty_z3
theorem in_lit0_22 : wBuild Tryz.prog nt rg h dst kk 22 0 #[] = setR nt rg dst (.sl h.next 0 0 0) fun rg => kk rg ⟨T.put h.objs h.next (.cells 3 0 (T.full (some (.i .i64 0)) depthC)), h.next + 1⟩ := wBuild_0 _ _ _ _ _ _ _ _ _ ty_el22 ty_one3 ty_z3
theorem in_lit1_42 : wBuild Tryz.prog nt rg h dst kk 42 1 #[(0, x)] = oe rg x fun v => sv v (fun v => chk (scalar v) (setR nt rg dst (.sl h.next 0 1 1) fun rg => kk rg ⟨T.put h.objs h.next (.cells 5 1 (T.put (T.full (some (.i .u8 0)) depthC) 0 v)), h.next + 1⟩) ⟨⟩) ⟨⟩ := wBuild_1 _ _ _ _ _ _ _ _ _ _ ty_el42 ty_one5 ty_z5
theorem in_lit2_42 : wBuild Tryz.prog nt rg h dst kk 42 2 #[(0, x), (1, y)] = oe rg x fun v => sv v (fun v => chk (scalar v) (oe rg y fun u => sv u (fun u => chk (scalar u) (setR nt rg dst (.sl h.next 0 2 2) fun rg => kk rg ⟨T.put h.objs h.next (.cells 5 2 (T.put (T.put (T.full (some (.i .u8 0)) depthC) 0 v) 1 u)), h.next + 1⟩) ⟨⟩) ⟨⟩) ⟨⟩) ⟨⟩ := wBuild_2 _ _ _ _ _ _ _ _ _ _ _ ty_el42 ty_one5 ty_z5
theorem in_lit0_42 : wBuild Tryz.prog nt rg h dst kk 42 0 #[] = setR nt rg dst (.sl h.next 0 0 0) fun rg => kk rg ⟨T.put h.objs h.next (.cells 5 0 (T.full (some (.i .u8 0)) depthC)), h.next + 1⟩ := wBuild_0 _ _ _ _ _ _ _ _ _ ty_el42 ty_one5 ty_z5
noncomputable def mkW (h : AH) (l c : Int) (e : Nat) (z : AV) (k : AV → AH → R) (_ : Tok k) : R := nat2 l c (fun l c => when (decide (l ≤ c)) (when (decide (c < 100000)) (k (.sl h.next 0 l c) ⟨T.put h.objs h.next (.cells e c (T.full (some z) depthC)), h.next + 1⟩))) none
theorem in_make22 : wMake Tryz.prog nt rg h dst kk 22 x y = oe rg x fun l => oe rg y fun c => onI l fun kl l => onI c fun kc c => when (Nat.beq (kn kl) 3) (when (Nat.beq (kn kc) 3) (mkW h l c 3 (.i .i64 0) (fun v h => setR nt rg dst v fun rg => kk rg h) ⟨⟩)) := wMake_n _ _ _ _ _ _ _ _ _ _ _ ty_el22 ty_os3 ty_z3
theorem in_make42 : wMake Tryz.prog nt rg h dst kk 42 x y = oe rg x fun l => oe rg y fun c => onI l fun kl l => onI c fun kc c => when (Nat.beq (kn kl) 3) (when (Nat.beq (kn kc) 3) (mkW h l c 5 (.i .u8 0) (fun v h => setR nt rg dst v fun rg => kk rg h) ⟨⟩)) := wMake_n _ _ _ _ _ _ _ _ _ _ _ ty_el42 ty_os5 ty_z5
theorem in_make34 : wMake Tryz.prog nt rg h dst kk 34 x y = oe rg x fun l => oe rg y fun c => onI l fun kl l => onI c fun kc c => when (Nat.beq (kn kl) 3) (when (Nat.beq (kn kc) 3) (mkW h l c 42 (.ns) (fun v h => setR nt rg dst v fun rg => kk rg h) ⟨⟩)) := wMake_n _ _ _ _ _ _ _ _ _ _ _ ty_el34 ty_os42 ty_z42
end
attribute [go_sem ↓] exs_seq exs_ret exs_skip exs_exit exs_region exs_regionQ exs_draw exs_cond exs_block exs_loop wantB_bt wantB_bf wantP_gt out0_r out0_n out1_g out2_g out3_g out4_g set_s go_fun q_fun go_val go_inv go_app pPick_br gt_put oe_gt chk_t wantD_0 wantD_s onB_b_p onI_i_p onS_s_p onP_p_p onTu_t_p onNc_p_p onSl_sl_p onSl_g_p onSl_ns_p onL_e_p onL_c_p onF_f_p dstAt_0 dstAt_s oe_b oe_i oe_s oe_np oe_ns oe_ni oe_f oes_n oes_c setR_n eqK_e eqK_n kBlock_n kBlock_r kBlock_e kSeq_n kSeq_r kSeq_e execOps_n execOps_c execQ_n execQ_c want_n want_g go_move go_assign go_pick go_alloc go_box go_build go_buildSlice go_insert go_load go_store go_nil go_binOp go_unOp go_convert go_makeMap go_makeSlice go_slice go_field go_indexAddr go_index go_lookup go_extract go_len go_min appK_c appK_e q_move q_assign q_nil q_field q_indexAddr q_index q_load q_binOp q_convert q_len pNot_n in_len pMin_n nth_0 nth_1 nth_2 nth_3 wNew_n wObj_n wBox_s pNil_n pExt_n pIface_n pFunc_n eqNil_sl eqNil_g eqNil_ns same_s intK_add intK_sub intK_mul intK_lss intK_gtr intK_leq intK_geq intK_eql intK_neq intK_quo intK_rem intK_and intK_or intK_shl intK_shr bop_ii bop_nn opt_s_p in_bin2 in_bin3 in_bin4 in_bin5 in_bin9 in_bin20 in_bin21 in_bin48 in_bin53 in_bin67 in_bin102 in_bin103 in_bin22 in_bin42 in_conv3_5 in_wconv3_5 in_conv5_3 in_wconv5_3 in_conv3_103 in_wconv3_103 in_conv5_21 in_wconv5_21 in_conv21_102 in_wconv21_102 in_conv21_5 in_wconv21_5 in_conv2_3 in_wconv2_3 in_conv3_2 in_wconv3_2 in_field0 in_field1 in_field2 in_index22 in_index42 in_index34 in_idx9 in_sub9 in_load3 in_store3 in_load4 in_store4 in_load5 in_store5 in_load9 in_store9 in_load22 in_store22 in_load42 in_store42 in_load34 in_store34 in_load65 in_store65 in_lit1_22 in_lit2_22 in_lit0_22 in_lit1_42 in_lit2_42 in_lit0_42 in_make22 in_make42 in_make34
attribute [go_sem] chk_t br_t br_f sv_v nt1_n nt1_l ix_sl ix_g ixA_sl ln_s9 ln_sl22 ln_g22 ln_n22 ln_sl42 ln_g42 ln_n42 ln_sl34 ln_g34 ln_n34 isC_c isC_t scalar_b scalar_i scalar_s scalar_p scalar_sl scalar_g scalar_ns opt_s when_t when_t_p ty_ifc48
end Go.Proofs.YtcnallabiffemaaGreatDoor.Vm
