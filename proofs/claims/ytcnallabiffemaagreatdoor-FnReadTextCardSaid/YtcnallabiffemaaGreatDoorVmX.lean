/- Rules for appends and for regions that end in one; what a run leaves as it was. Conditions: fewer than 100000 numbers. -/
import Derived.Test.YtcnallabiffemaaGreatDoorVmV
import Derived.Test.YtcnallabiffemaaGreatDoorVmU
set_option linter.unusedSimpArgs false
set_option linter.unusedVariables false
namespace Go.Proofs.YtcnallabiffemaaGreatDoor.Vm
open Go
/-- An append, told for every continuation. -/
def Apd (h : AH) (t : Nat) (s x : AV) (F : AV → AH → Prop) : Prop :=
  ∃ v h', (∀ nt rg dst (kk : T AV → AH → R) a b, T.get rg a = some s → T.get rg b = some x → wAppend Tryz.prog nt rg h dst kk t t (.tmp a) (.tmp b) = setR nt rg dst v fun rg => kk rg h') ∧ F v h'
theorem Runs.app {h : AH} {t nt a b : Nat} {s x : AV} {F : AV → AH → Prop} {rg : T AV} {dst : Option Tmp} {KK : (AV → AH → R) → T AV → AH → R} {Q : AV → AH → Prop} (hp : Apd h t s x F) (ha : T.get rg a = some s) (hb : T.get rg b = some x)
    (hk : ∀ v h', F v h' → Runs (fun k => setR nt rg dst v fun rg => KK k rg h') Q) : Runs (fun k => apW Tryz.prog nt rg h dst (KK k) t t (.tmp a) (.tmp b) ⟨⟩) Q := by
  obtain ⟨v, h', h1, h2⟩ := hp
  exact Runs.of_eq (fun k => h1 nt rg dst (KK k) a b ha hb) (hk v h' h2)
theorem RunsC.app {h : AH} {t nt a b : Nat} {s x : AV} {F : AV → AH → Prop} {rg : T AV} {dst : Option Tmp} {KK : (AX → T AV → AH → R) → T AV → AH → R} {Q : AX → T AV → AH → Prop} (hp : Apd h t s x F) (ha : T.get rg a = some s) (hb : T.get rg b = some x)
    (hk : ∀ v h', F v h' → RunsC (fun k => setR nt rg dst v fun rg => KK k rg h') Q) : RunsC (fun k => apW Tryz.prog nt rg h dst (KK k) t t (.tmp a) (.tmp b) ⟨⟩) Q := by
  obtain ⟨v, h', h1, h2⟩ := hp
  exact RunsC.of_eq (fun k => h1 nt rg dst (KK k) a b ha hb) (hk v h' h2)
theorem RunsC.drawM {P : Program} {ex : Runner} {nt : Nat} {rg : T AV} {h : AH} {K : (AX → T AV → AH → R) → AX → T AV → AH → R} {Q : AX → T AV → AH → Prop} {l : List Oper} (l1 l2 : List Oper) (n : Nat) (h1 : l.any isWrite = false) (h3 : l.any isMake = true) (hn : firstM l = n) (e1 : l.take n = l1) (e2 : l.drop n = l2) (h2 : takesB l.toArray n = true)
    (hx : RunsC (fun k => execQ P nt (fun _ _ _ _ => none) l.toArray h l1 rg fun rg => execOps P nt (callAt P ex false) l.toArray l2 rg h fun rg h => K k .normal rg h) Q) : RunsC (fun k => drW P ex false nt rg h (K k) l ⟨⟩) Q :=
  RunsC.of_eq (fun k => rDraw_m P ex nt rg h (K k) l l1 l2 n h1 h3 hn e1 e2 h2) hx
/-- What lies ahead of a place is as it was. -/
structure Same (m : Nat) (h h' : AH) : Prop where
  next : h.next ≤ h'.next
  get : ∀ j, j < m → T.get h'.objs j = T.get h.objs j
theorem Same.rfl' {m : Nat} {h : AH} : Same m h h := ⟨Nat.le_refl _, fun _ _ => rfl⟩
theorem Same.trans {m : Nat} {a b c : AH} (x : Same m a b) (y : Same m b c) : Same m a c := ⟨Nat.le_trans x.next y.next, fun j hj => (y.get j hj).trans (x.get j hj)⟩
theorem Same.less {m n : Nat} {a b : AH} (x : Same m a b) (h : n ≤ m) : Same n a b := ⟨x.next, fun j hj => x.get j (by omega)⟩
theorem SlN.keep {kd : IntKind} {e m n : Nat} {h h' : AH} {v : AV} {xs : List Nat} (x : SlN kd e m h v xs) (s : Same n h h') (hn : h.next ≤ n) : SlN kd e m h' v xs :=
  ⟨x.sl.keep s.next fun j hj => s.get j (by have := x.sl.lt hj; omega), x.own⟩
theorem app1 {kd : IntKind} {e t m : Nat} {ob : T AO} {nx : Nat} {s : AV} {xs : List Nat} {z : AV} (he : elemOf Tryz.prog t = some e) (ho : (one Tryz.prog e && small Tryz.prog e) = true) (hz : zero1 Tryz.prog e = some z)
    (hs : SlN kd e m ⟨ob, nx⟩ s xs) (hm : m ≤ nx) (n : Nat) (hlen : xs.length + 1 < 100000) :
    Apd ⟨T.put ob nx (.cells e 1 (T.put (T.full (some z) depthC) 0 (.i kd (n : Int)))), nx + 1⟩ t s (.sl nx 0 1 1) fun v h' => SlN kd e m h' v (xs ++ [n]) ∧ Same m ⟨ob, nx⟩ h' ∧ ∀ j, j < nx → ¬ Owns s j → T.get h'.objs j = T.get ob j := by
  obtain ⟨v, h', h1, h2, h3, h4⟩ := push1 he ho hz hs hm n hlen
  exact ⟨v, h', h1, h2, ⟨h3, fun j hj => h4 j (Nat.lt_of_lt_of_le hj hm) fun ow => absurd (hs.own j ow) (by omega)⟩, h4⟩
theorem app2 {kd : IntKind} {e t m : Nat} {ob : T AO} {nx : Nat} {s : AV} {xs : List Nat} {z : AV} (he : elemOf Tryz.prog t = some e) (ho : (one Tryz.prog e && small Tryz.prog e) = true) (hz : zero1 Tryz.prog e = some z)
    (hs : SlN kd e m ⟨ob, nx⟩ s xs) (hm : m ≤ nx) (n q : Nat) (hlen : xs.length + 2 < 100000) :
    Apd ⟨T.put ob nx (.cells e 2 (T.put (T.put (T.full (some z) depthC) 0 (.i kd (n : Int))) 1 (.i kd (q : Int)))), nx + 1⟩ t s (.sl nx 0 2 2) fun v h' => SlN kd e m h' v (xs ++ [n, q]) ∧ Same m ⟨ob, nx⟩ h' ∧ ∀ j, j < nx → ¬ Owns s j → T.get h'.objs j = T.get ob j := by
  obtain ⟨v, h', h1, h2, h3, h4⟩ := push2 he ho hz hs hm n q hlen
  exact ⟨v, h', h1, h2, ⟨h3, fun j hj => h4 j (Nat.lt_of_lt_of_le hj hm) fun ow => absurd (hs.own j ow) (by omega)⟩, h4⟩
/-- Onto an own slice, another one that lies elsewhere. -/
theorem appN {kd : IntKind} {e t m : Nat} {h : AH} {s x : AV} {xs ys : List Nat} {z : AV} (he : elemOf Tryz.prog t = some e) (ho : (one Tryz.prog e && small Tryz.prog e) = true) (hz : zero1 Tryz.prog e = some z)
    (hs : SlN kd e m h s xs) (hm : m ≤ h.next) (hx : Sl kd e h x ys) (hd : ∀ j, Owns s j → ¬ Owns x j) (hy : ys ≠ []) (hlen : xs.length + ys.length < 100000) :
    Apd h t s x fun v h' => SlN kd e m h' v (xs ++ ys) ∧ Same m h h' ∧ ∀ j, j < h.next → ¬ Owns s j → T.get h'.objs j = T.get h.objs j := by
  obtain ⟨v, h', h1, h2, h3, h4, h5⟩ := append_num he ho hz hs.sl hx hy hd hlen
  exact ⟨v, h', h1, ⟨h2, fun j hj => by rcases h5 j hj with h | h; exact hs.own j h; omega⟩, ⟨h3, fun j hj => h4 j (Nat.lt_of_lt_of_le hj hm) fun ow => absurd (hs.own j ow) (by omega)⟩, h4⟩
theorem app1i {m : Nat} {ob : T AO} {nx : Nat} {s : AV} {xs : List Nat} (hs : SlN .i64 3 m ⟨ob, nx⟩ s xs) (hm : m ≤ nx) (n : Nat) (hlen : xs.length + 1 < 100000) :
    Apd ⟨T.put ob nx (.cells 3 1 (T.put (T.full (some (.i .i64 0)) depthC) 0 (.i .i64 (n : Int)))), nx + 1⟩ 22 s (.sl nx 0 1 1) fun v h' => SlN .i64 3 m h' v (xs ++ [n]) ∧ Same m ⟨ob, nx⟩ h' ∧ ∀ j, j < nx → ¬ Owns s j → T.get h'.objs j = T.get ob j :=
  app1 ty_el22 ty_os3 ty_z3 hs hm n hlen
theorem app2i {m : Nat} {ob : T AO} {nx : Nat} {s : AV} {xs : List Nat} (hs : SlN .i64 3 m ⟨ob, nx⟩ s xs) (hm : m ≤ nx) (n q : Nat) (hlen : xs.length + 2 < 100000) :
    Apd ⟨T.put ob nx (.cells 3 2 (T.put (T.put (T.full (some (.i .i64 0)) depthC) 0 (.i .i64 (n : Int))) 1 (.i .i64 (q : Int)))), nx + 1⟩ 22 s (.sl nx 0 2 2) fun v h' => SlN .i64 3 m h' v (xs ++ [n, q]) ∧ Same m ⟨ob, nx⟩ h' ∧ ∀ j, j < nx → ¬ Owns s j → T.get h'.objs j = T.get ob j :=
  app2 ty_el22 ty_os3 ty_z3 hs hm n q hlen
theorem app1b {m : Nat} {ob : T AO} {nx : Nat} {s : AV} {xs : List Nat} (hs : SlN .u8 5 m ⟨ob, nx⟩ s xs) (hm : m ≤ nx) (n : Nat) (hlen : xs.length + 1 < 100000) :
    Apd ⟨T.put ob nx (.cells 5 1 (T.put (T.full (some (.i .u8 0)) depthC) 0 (.i .u8 (n : Int)))), nx + 1⟩ 42 s (.sl nx 0 1 1) fun v h' => SlN .u8 5 m h' v (xs ++ [n]) ∧ Same m ⟨ob, nx⟩ h' ∧ ∀ j, j < nx → ¬ Owns s j → T.get h'.objs j = T.get ob j :=
  app1 ty_el42 ty_os5 ty_z5 hs hm n hlen
theorem SlN.nil {kd : IntKind} {e m : Nat} {h : AH} : SlN kd e m h .ns [] := ⟨.ns, fun _ h => h.elim⟩
theorem Runs.joind {P : Program} {m nt : Nat} {q : Bool} {a b : Code} {rg : T AV} {h : AH} {KK : (AV → AH → R) → AX → T AV → AH → R} {Q : AV → AH → Prop} {p : Prop} {_i : Decidable p} (Q1 : AX → T AV → AH → Prop)
    (ha : p → RunsC (fun k => exec P m q nt a rg h k) Q1) (hb : ¬p → RunsC (fun k => exec P m q nt b rg h k) Q1) (hk : ∀ e rg h, Q1 e rg h → Runs (fun k => KK k e rg h) Q) :
    Runs (fun k => Vm.br (decide p) (exec P m q nt a rg h (KK k)) (exec P m q nt b rg h (KK k)) ⟨⟩) Q := by
  refine Runs.brd (fun c => ?_) (fun c => ?_)
  · obtain ⟨e, rg', h', h1, h2⟩ := ha c
    exact Runs.of_eq (fun k => h1 (KK k)) (hk e rg' h' h2)
  · obtain ⟨e, rg', h', h1, h2⟩ := hb c
    exact Runs.of_eq (fun k => h1 (KK k)) (hk e rg' h' h2)
theorem RunsC.joind {P : Program} {m nt : Nat} {q : Bool} {a b : Code} {rg : T AV} {h : AH} {KK : (AX → T AV → AH → R) → AX → T AV → AH → R} {Q : AX → T AV → AH → Prop} {p : Prop} {_i : Decidable p} (Q1 : AX → T AV → AH → Prop)
    (ha : p → RunsC (fun k => exec P m q nt a rg h k) Q1) (hb : ¬p → RunsC (fun k => exec P m q nt b rg h k) Q1) (hk : ∀ e rg h, Q1 e rg h → RunsC (fun k => KK k e rg h) Q) :
    RunsC (fun k => Vm.br (decide p) (exec P m q nt a rg h (KK k)) (exec P m q nt b rg h (KK k)) ⟨⟩) Q := by
  refine RunsC.brd (fun c => ?_) (fun c => ?_)
  · obtain ⟨e, rg', h', h1, h2⟩ := ha c
    exact RunsC.of_eq (fun k => h1 (KK k)) (hk e rg' h' h2)
  · obtain ⟨e, rg', h', h1, h2⟩ := hb c
    exact RunsC.of_eq (fun k => h1 (KK k)) (hk e rg' h' h2)
theorem Runs.eq {P : Program} {ex : Runner} {q : Bool} {f : Nat} {l a : AV} {h : AH} (hr : Runs (fun k => cl P ex q f l h k ⟨⟩) fun v h' => v = a ∧ h' = h) (k : AV → AH → R) (w : Tok k) : cl P ex q f l h k w = k a h := by
  obtain ⟨v, h', h1, rfl, rfl⟩ := hr
  exact h1 k
section
variable {kd : IntKind} {e : Nat} {h : AH} {v : AV} {xs : List Nat} (hs : Sl kd e h v xs) (k : AV → R)
include hs
theorem Sl.ln22 (w : Tok k) : ln 22 v k w = k (.i .i64 (xs.length : Int)) := by cases hs; exact ln_n22 k w; exact ln_g22 _ _ k w; exact ln_sl22 _ _ _ _ k w
theorem Sl.ln42 (w : Tok k) : ln 42 v k w = k (.i .i64 (xs.length : Int)) := by cases hs; exact ln_n42 k w; exact ln_g42 _ _ k w; exact ln_sl42 _ _ _ _ k w
theorem Sl.eqNil (hn : v ≠ .ns) (op : BinOp) : Vm.eqNil k op v .ns = eqK op false k := by
  cases hs with
  | ns => exact absurd rfl hn
  | g => rfl
  | sl => rfl
theorem Sl.ix (w : Tok k) (j : Nat) (hj : j < xs.length) : ix v j k w = k (.p (idOf v) j) := by
  cases hs with
  | ns => exact absurd hj (by simp)
  | g id cs xs hid ho hx => rw [ix_g, decide_eq_true hj, chk_t]; rfl
  | sl id cap cs xs hid ho hx hc => rw [ix_sl, decide_eq_true hj, chk_t, Nat.zero_add]; rfl
theorem Sl.ld (w : Tok k) (j : Nat) (hj : j < xs.length) : ld h (.p (idOf v) j) k w = k (.i kd (xs.getD j 0 : Int)) := by
  cases hs with
  | ns => exact absurd hj (by simp)
  | g id cs xs hid ho hx => exact ld_p k h id j w _ ho _ (by rw [at_grow, if_pos hj, hx j hj, List.getD_eq_getElem?_getD, List.getElem?_eq_getElem hj]; rfl)
  | sl id cap cs xs hid ho hx hc => exact ld_p k h id j w _ ho _ (by rw [at_cells, if_pos (by omega), hx j hj, List.getD_eq_getElem?_getD, List.getElem?_eq_getElem hj]; rfl)
end
theorem lit1i (ob : T AO) (nx n : Nat) : SlN .i64 3 nx ⟨T.put ob nx (.cells 3 1 (T.put (T.full (some (.i .i64 0)) depthC) 0 (.i .i64 (n : Int)))), nx + 1⟩ (.sl nx 0 1 1) [n] :=
  ⟨.sl nx 1 (T.put (T.full (some (.i .i64 0)) depthC) 0 (.i .i64 (n : Int))) [n] (Nat.lt_succ_self _) (by simp only [get_put, if_true]) (fun j hj => by
    have : j = 0 := by simpa using hj
    subst this
    simp [get_put]) (Nat.le_refl _), fun j hj => by cases hj; exact Nat.le_refl _⟩
theorem lit2i (ob : T AO) (nx n q : Nat) : SlN .i64 3 nx ⟨T.put ob nx (.cells 3 2 (T.put (T.put (T.full (some (.i .i64 0)) depthC) 0 (.i .i64 (n : Int))) 1 (.i .i64 (q : Int)))), nx + 1⟩ (.sl nx 0 2 2) [n, q] :=
  ⟨.sl nx 2 (T.put (T.put (T.full (some (.i .i64 0)) depthC) 0 (.i .i64 (n : Int))) 1 (.i .i64 (q : Int))) [n, q] (Nat.lt_succ_self _) (by simp only [get_put, if_true]) (fun j hj => by
    have : j = 0 ∨ j = 1 := by simp at hj; omega
    rcases this with rfl | rfl <;> simp [get_put]) (Nat.le_refl _), fun j hj => by cases hj; exact Nat.le_refl _⟩
theorem Same.new (ob : T AO) (nx : Nat) (o : AO) : Same nx ⟨ob, nx⟩ ⟨T.put ob nx o, nx + 1⟩ := ⟨Nat.le_succ _, fun j hj => by simp only [get_put]; rw [if_neg (by omega)]⟩
theorem SlN.less {kd : IntKind} {e m n : Nat} {h : AH} {v : AV} {xs : List Nat} (x : SlN kd e m h v xs) (hn : n ≤ m) : SlN kd e n h v xs := ⟨x.sl, fun j hj => Nat.le_trans hn (x.own j hj)⟩
theorem drop_getD (l : List Nat) (p : Nat) (h : p < l.length) : l.drop p = l.getD p 0 :: l.drop (p + 1) := by
  rw [List.drop_eq_getElem_cons h, List.getD_eq_getElem?_getD, List.getElem?_eq_getElem h]
  rfl
theorem RunsC.again {I : Nat → T AV → AH → Prop} {Q : AX → T AV → AH → Prop} {i : Nat} {rg : T AV} {h : AH} (j : Nat) (hj : j < i) (hi : I j rg h) : RunsC (fun k => k .normal rg h) (Round I Q i) := RunsC.ret (e := .normal) ⟨j, hj, hi⟩
theorem RunsC.leave {I : Nat → T AV → AH → Prop} {Q : AX → T AV → AH → Prop} {i id : Nat} {rg : T AV} {h : AH} (hq : Q (.exit id) rg h) : RunsC (fun k => k (.exit id) rg h) (Round I Q i) := RunsC.ret (e := .exit id) hq
theorem RunsC.back {I : Nat → T AV → AH → Prop} {Q : AX → T AV → AH → Prop} {i : Nat} {rg : T AV} {h : AH} (hq : Q .ret rg h) : RunsC (fun k => k .ret rg h) (Round I Q i) := RunsC.ret (e := .ret) hq
end Go.Proofs.YtcnallabiffemaaGreatDoor.Vm
