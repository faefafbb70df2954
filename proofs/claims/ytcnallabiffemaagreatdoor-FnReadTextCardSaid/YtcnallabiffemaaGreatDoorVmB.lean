/- The abstract machine's words: trees, values and what they stand for, heaps and frames. Conditions: none; lemmas alone. -/
import Derived.Test.YtcnallabiffemaaGreatDoorVmA
import Derived.Below
import Derived.Tactics
import Derived.LoopN
namespace Go.Proofs.YtcnallabiffemaaGreatDoor.Vm
open Go Go.RowKit

/-! ### Small eliminators -/
theorem opt_some {α β : Type} {x : Option α} {k : α → Option β} {r : β} (h : opt x k = some r) : ∃ a, x = some a ∧ k a = some r := by
  cases x with
  | none => cases h
  | some a => exact ⟨a, rfl, h⟩
theorem when_some {β : Type} {x : Bool} {k : Option β} {r : β} (h : when x k = some r) : x = true ∧ k = some r := by
  cases x with
  | false => cases h
  | true => exact ⟨rfl, h⟩
theorem forceN_eq {β : Type} (n : Nat) (k : Nat → Option β) : forceN n k = k n := by cases n <;> rfl
theorem forceI_eq {β : Type} (n : Int) (k : Int → Option β) : forceI n k = k n := by
  cases n with
  | ofNat m => exact forceN_eq m fun m' => k (.ofNat m')
  | negSucc m => exact forceN_eq m fun m' => k (.negSucc m')
theorem forceB_eq {β : Type} (x : Bool) (k : Bool → Option β) : forceB x k = k x := by cases x <;> rfl
theorem onB_some {v : AV} {k : Bool → R} {r : AV × AH} (h : onB v k = some r) : ∃ x, v = .b x ∧ k x = some r := by
  cases v <;> first | exact ⟨_, rfl, h⟩ | cases h
theorem onI_some {v : AV} {k : IntKind → Int → R} {r : AV × AH} (h : onI v k = some r) : ∃ x n, v = .i x n ∧ k x n = some r := by
  cases v <;> first | exact ⟨_, _, rfl, h⟩ | cases h
theorem onS_some {v : AV} {k : ByteArray → R} {r : AV × AH} (h : onS v k = some r) : ∃ x, v = .s x ∧ k x = some r := by
  cases v <;> first | exact ⟨_, rfl, h⟩ | cases h
theorem onP_some {v : AV} {k : Nat → Nat → R} {r : AV × AH} (h : onP v k = some r) : ∃ x n, v = .p x n ∧ k x n = some r := by
  cases v <;> first | exact ⟨_, _, rfl, h⟩ | cases h
theorem onF_some {v : AV} {k : Nat → AV → R} {r : AV × AH} (h : onF v k = some r) : ∃ x n, v = .f x n ∧ k x n = some r := by
  cases v <;> first | exact ⟨_, _, rfl, h⟩ | cases h
theorem onIt_some {v : AV} {k : Nat → AV → R} {r : AV × AH} (h : onIt v k = some r) : ∃ x n, v = .it x n ∧ k x n = some r := by
  cases v <;> first | exact ⟨_, _, rfl, h⟩ | cases h
theorem onTu_some {v : AV} {k : AV → R} {r : AV × AH} (h : onTu v k = some r) : ∃ x, v = .tu x ∧ k x = some r := by
  cases v <;> first | exact ⟨_, rfl, h⟩ | cases h
theorem onM_some {v : AV} {k : Nat → R} {r : AV × AH} (h : onM v k = some r) : ∃ x, v = .m x ∧ k x = some r := by
  cases v <;> first | exact ⟨_, rfl, h⟩ | cases h
theorem onNp_some {v : AV} {k : R} {r : AV × AH} (h : onNp v k = some r) : v = .np ∧ k = some r := by
  cases v <;> first | exact ⟨rfl, h⟩ | cases h
theorem onNi_some {v : AV} {k : R} {r : AV × AH} (h : onNi v k = some r) : v = .ni ∧ k = some r := by
  cases v <;> first | exact ⟨rfl, h⟩ | cases h
theorem onNc_some {v : AV} {k : AV → R} {r : AV × AH} (h : onNc v k = some r) : ((∃ a b, v = .p a b) ∨ ∃ f c, v = .f f c) ∧ k v = some r := by
  cases v <;> first | exact ⟨.inl ⟨_, _, rfl⟩, h⟩ | exact ⟨.inr ⟨_, _, rfl⟩, h⟩ | cases h
theorem onSl_some {v : AV} {sl : Nat → Nat → Nat → Nat → R} {g : Nat → Nat → R} {ns : R} {r : AV × AH} (h : onSl v sl g ns = some r) :
    (∃ a b c d, v = .sl a b c d ∧ sl a b c d = some r) ∨ (∃ a b, v = .g a b ∧ g a b = some r) ∨ (v = .ns ∧ ns = some r) := by
  cases v <;> first | exact .inl ⟨_, _, _, _, rfl, h⟩ | exact .inr (.inl ⟨_, _, rfl, h⟩) | exact .inr (.inr ⟨rfl, h⟩) | cases h
theorem onLen_some {v : AV} {s : ByteArray → R} {sl : Nat → Nat → Nat → Nat → R} {g : Nat → Nat → R} {ns : R} {r : AV × AH} (h : onLen v s sl g ns = some r) :
    (∃ x, v = .s x ∧ s x = some r) ∨ (∃ a b c d, v = .sl a b c d ∧ sl a b c d = some r) ∨ (∃ a b, v = .g a b ∧ g a b = some r) ∨ (v = .ns ∧ ns = some r) := by
  cases v <;> first | exact .inl ⟨_, rfl, h⟩ | exact .inr (.inl ⟨_, _, _, _, rfl, h⟩) | exact .inr (.inr (.inl ⟨_, _, rfl, h⟩)) | exact .inr (.inr (.inr ⟨rfl, h⟩)) | cases h
theorem onBox_some {v : AV} {ag : AV → R} {sc : R} {r : AV × AH} (h : onBox v ag sc = some r) : (∃ l, v = .ag l ∧ ag l = some r) ∨ (scalar v = true ∧ sc = some r) := by
  cases v <;> first | exact .inl ⟨_, rfl, h⟩ | exact .inr ⟨rfl, h⟩ | cases h
theorem onL_some {v : AV} {e : R} {c : AV → AV → R} {r : AV × AH} (h : onL v e c = some r) : (v = .e ∧ e = some r) ∨ ∃ x l, v = .c x l ∧ c x l = some r := by
  cases v <;> first | exact .inl ⟨rfl, h⟩ | exact .inr ⟨_, _, rfl, h⟩ | cases h
theorem nat2_some {x y : Int} {fast : Nat → Nat → R} {slow : R} {r : AV × AH} (h : nat2 x y fast slow = some r) : (∃ a b, x = .ofNat a ∧ y = .ofNat b ∧ fast a b = some r) ∨ slow = some r := by
  cases x <;> cases y <;> first | exact .inl ⟨_, _, rfl, rfl, h⟩ | exact .inr h

/-! ### Trees -/
def dec : B → Nat
  | .z => 0
  | .o b => 2 * dec b + 1
  | .e b => 2 * dec b + 2
theorem dec_bitsF : ∀ (n k : Nat), k < n → dec (bitsF n k) = k := by
  intro n
  induction n with
  | zero => intro k h; omega
  | succ n ih =>
    intro k h
    cases k with
    | zero => rfl
    | succ m =>
      show dec (Bool.rec (motive := fun _ => B) (.e (bitsF n (Nat.div m 2))) (.o (bitsF n (Nat.div m 2))) (Nat.beq (Nat.mod m 2) 0)) = m + 1
      have hd := ih (m / 2) (by omega)
      cases hb : Nat.beq (Nat.mod m 2) 0 with
      | true =>
        have : m % 2 = 0 := Nat.eq_of_beq_eq_true hb
        show 2 * dec (bitsF n (m / 2)) + 1 = m + 1
        rw [hd]; omega
      | false =>
        have : ¬ m % 2 = 0 := fun e => by rw [show Nat.mod m 2 = 0 from e] at hb; cases hb
        show 2 * dec (bitsF n (m / 2)) + 2 = m + 1
        rw [hd]; omega
theorem bits_inj {j k : Nat} (h : bits j = bits k) : j = k := by
  have hj := dec_bitsF (Nat.succ j) j (Nat.lt_succ_self j)
  have hk := dec_bitsF (Nat.succ k) k (Nat.lt_succ_self k)
  unfold bits at h
  rw [h] at hj
  exact hj.symm.trans hk
def T.putB {α : Type} : B → T α → α → T α
  | .z, .leaf, x => .node .leaf (some x) .leaf
  | .z, .node l _ r, x => .node l (some x) r
  | .o b, .leaf, x => .node (T.putB b .leaf x) none .leaf
  | .o b, .node l v r, x => .node (T.putB b l x) v r
  | .e b, .leaf, x => .node .leaf none (T.putB b .leaf x)
  | .e b, .node l v r, x => .node l v (T.putB b r x)
/-- A store. -/
noncomputable def T.put {α : Type} (t : T α) (k : Nat) (x : α) : T α := T.putB (bits k) t x
theorem getB_leaf {α : Type} (b : B) : T.getB b (.leaf : T α) = none := by cases b <;> rfl
theorem setB_put {α β : Type} (k : B) : ∀ (t : T α) (x : α) (ok : T α → Option β), T.setB k t x ok = ok (T.putB k t x) := by
  induction k with
  | z => intro t x ok; cases t <;> rfl
  | o b ih =>
    intro t x ok
    cases t with
    | leaf => exact ih .leaf x _
    | node l v r => exact ih l x _
  | e b ih =>
    intro t x ok
    cases t with
    | leaf => exact ih .leaf x _
    | node l v r => exact ih r x _
theorem setK_put {α β : Type} (t : T α) (k : Nat) (x : α) (ok : T α → Option β) : T.setK t k x ok = ok (T.put t k x) := setB_put _ _ _ _
theorem getB_putB {α : Type} (k : B) : ∀ (t : T α) (x : α) (j : B), (j = k → T.getB j (T.putB k t x) = some x) ∧ (j ≠ k → T.getB j (T.putB k t x) = T.getB j t) := by
  induction k with
  | z =>
    intro t x j
    cases t with
    | leaf => refine ⟨fun e => by rw [e]; rfl, fun hj => ?_⟩; cases j with
      | z => exact absurd rfl hj
      | o b => exact (getB_leaf b).trans (getB_leaf (.o b)).symm
      | e b => exact (getB_leaf b).trans (getB_leaf (.e b)).symm
    | node l v r => refine ⟨fun e => by rw [e]; rfl, fun hj => ?_⟩; cases j <;> first | exact absurd rfl hj | rfl
  | o b ih =>
    intro t x j
    cases t with
    | leaf => refine ⟨fun e => by rw [e]; exact (ih .leaf x b).1 rfl, fun hj => ?_⟩; cases j with
      | z => rfl
      | o j => exact ((ih .leaf x j).2 fun e => hj (by rw [e])).trans ((getB_leaf j).trans (getB_leaf (.o j)).symm)
      | e j => exact (getB_leaf j).trans (getB_leaf (.e j)).symm
    | node l v r => refine ⟨fun e => by rw [e]; exact (ih l x b).1 rfl, fun hj => ?_⟩; cases j with
      | z => rfl
      | o j => exact (ih l x j).2 fun e => hj (by rw [e])
      | e j => rfl
  | e b ih =>
    intro t x j
    cases t with
    | leaf => refine ⟨fun e => by rw [e]; exact (ih .leaf x b).1 rfl, fun hj => ?_⟩; cases j with
      | z => rfl
      | e j => exact ((ih .leaf x j).2 fun e => hj (by rw [e])).trans ((getB_leaf j).trans (getB_leaf (.e j)).symm)
      | o j => exact (getB_leaf j).trans (getB_leaf (.o j)).symm
    | node l v r => refine ⟨fun e => by rw [e]; exact (ih r x b).1 rfl, fun hj => ?_⟩; cases j with
      | z => rfl
      | e j => exact (ih r x j).2 fun e => hj (by rw [e])
      | o j => rfl
theorem get_put {α : Type} (t : T α) (k j : Nat) (x : α) : T.get (T.put t k x) j = if j = k then some x else T.get t j := by
  have h := getB_putB (bits k) t x (bits j)
  split
  · rename_i e; exact h.1 (by rw [e])
  · rename_i e; exact h.2 fun e' => e (bits_inj e')
theorem setK_some {α β : Type} {t : T α} {k : Nat} {x : α} {ok : T α → Option β} {r : β} (h : T.setK t k x ok = some r) :
    ∃ t', ok t' = some r ∧ ∀ j, T.get t' j = if j = k then some x else T.get t j :=
  ⟨T.put t k x, (setK_put t k x ok).symm.trans h, fun j => get_put t k j x⟩
theorem getB_full {α : Type} (v : Option α) (b : B) : ∀ d, T.getB b (T.full v d) = v ∨ T.getB b (T.full v d) = none := by
  induction b with
  | z => intro d; cases d with
    | zero => exact .inr rfl
    | succ d => exact .inl rfl
  | o b ih => intro d; cases d with
    | zero => exact .inr rfl
    | succ d => exact ih d
  | e b ih => intro d; cases d with
    | zero => exact .inr rfl
    | succ d => exact ih d
theorem get_full {α : Type} {v : Option α} {d k : Nat} {x : α} (h : T.get (T.full v d) k = some x) : v = some x := by
  rcases getB_full v (bits k) d with h1 | h1
  · exact h1.symm.trans h
  · rw [show T.get (T.full v d) k = T.getB (bits k) (T.full v d) from rfl, h1] at h; cases h

/-! ### Values -/
/-- Which block an id stands for, and what capacity a grown slice has. -/
structure Env where
  σ : Nat → Nat
  κ : Nat → Nat
mutual
def conc (ρ : Env) : AV → Value
  | .b x => .bool x
  | .i k n => .int k n
  | .s x => .string x
  | .p id off => .pointer (some ⟨ρ.σ id, off, none⟩)
  | .np => .pointer none
  | .sl id off len cap => .slice (some ⟨ρ.σ id, off, none⟩) len cap
  | .g id len => .slice (some ⟨ρ.σ id, 0, none⟩) len (ρ.κ id)
  | .ns => .slice none 0 0
  | .f f caps => .func (.func f) #[] (concL ρ caps).toArray
  | .nf => .nilFunc
  | .it t v => .iface t (conc ρ v)
  | .ni => .nilIface
  | .m id => .map (some (ρ.σ id))
  | .ag l => .agg (concL ρ l).toArray
  | .tu l => .tuple (concL ρ l).toArray
  | .e => undef
  | .c _ _ => undef
def concL (ρ : Env) : AV → List Value
  | .c x l => conc ρ x :: concL ρ l
  | _ => []
end
/-- All ids of a value are below n. -/
def ok (n : Nat) : AV → Prop
  | .p id _ => id < n
  | .sl id _ _ _ => id < n
  | .g id _ => id < n
  | .f _ caps => ok n caps
  | .it _ v => ok n v
  | .ag l => ok n l
  | .tu l => ok n l
  | .m id => id < n
  | .c x l => ok n x ∧ ok n l
  | _ => True
def Ext (ρ : Env) (n : Nat) (ρ' : Env) : Prop := ∀ i, i < n → ρ'.σ i = ρ.σ i ∧ ρ'.κ i = ρ.κ i
theorem Ext.refl (ρ : Env) (n : Nat) : Ext ρ n ρ := fun _ _ => ⟨rfl, rfl⟩
theorem Ext.trans {ρ ρ' ρ'' : Env} {n m : Nat} (h : Ext ρ n ρ') (h' : Ext ρ' m ρ'') (hn : n ≤ m) : Ext ρ n ρ'' :=
  fun i hi => ⟨(h' i (by omega)).1.trans (h i hi).1, (h' i (by omega)).2.trans (h i hi).2⟩
theorem ok_mono {n m : Nat} (hn : n ≤ m) : ∀ v : AV, ok n v → ok m v := by
  intro v
  induction v with
  | p id off => exact fun h => Nat.lt_of_lt_of_le h hn
  | sl id off len cap => exact fun h => Nat.lt_of_lt_of_le h hn
  | g id len => exact fun h => Nat.lt_of_lt_of_le h hn
  | f fn caps ih => exact ih
  | it t v ih => exact ih
  | ag l ih => exact ih
  | tu l ih => exact ih
  | c x l ih1 ih2 => exact fun h => ⟨ih1 h.1, ih2 h.2⟩
  | m id => exact fun h => Nat.lt_of_lt_of_le h hn
  | _ => exact fun _ => trivial
theorem conc_ext {ρ ρ' : Env} {n : Nat} (he : Ext ρ n ρ') : ∀ v : AV, ok n v → conc ρ' v = conc ρ v ∧ concL ρ' v = concL ρ v := by
  intro v
  induction v with
  | p id off => intro h; simp [conc, concL, (he id h).1]
  | sl id off len cap => intro h; simp [conc, concL, (he id h).1]
  | g id len => intro h; simp [conc, concL, (he id h).1, (he id h).2]
  | f fn caps ih => intro h; simp [conc, concL, (ih h).2]
  | it t v ih => intro h; simp [conc, concL, (ih h).1]
  | ag l ih => intro h; simp [conc, concL, (ih h).2]
  | tu l ih => intro h; simp [conc, concL, (ih h).2]
  | c x l ih1 ih2 => intro h; simp [conc, concL, (ih1 h.1).1, (ih2 h.2).2]
  | m id => intro h; simp [conc, concL, (he id h).1]
  | _ => intro _; simp [conc, concL]
theorem scalar_cells {ρ : Env} {v : AV} (h : scalar v = true) : (conc ρ v).cells = #[conc ρ v] := by
  cases v <;> first | rfl | cases h
theorem scalar_one {ρ : Env} {v : AV} (h : scalar v = true) : (conc ρ v).oneCell' = true := by
  cases v <;> first | rfl | cases h

/-! ### Frames and heaps -/
structure RR (ρ : Env) (n nt : Nat) (rg : T AV) (a : Act) : Prop where
  size : a.tmps.size = nt
  nodefer : a.defers = []
  slot : ∀ t v, T.get rg t = some v → t < nt ∧ ok n v ∧ a.tmps[t]? = some (conc ρ v)
theorem RR.put {ρ : Env} {n nt : Nat} {rg rg' : T AV} {a : Act} {d : Nat} {v : AV} (h : RR ρ n nt rg a) (hd : d < nt) (hv : ok n v) (hr : ∀ j, T.get rg' j = if j = d then some v else T.get rg j) :
    RR ρ n nt rg' (a.put (some d) (conc ρ v)) := by
  refine ⟨by simpa [Act.put] using h.size, h.nodefer, fun t u hu => ?_⟩
  rw [hr] at hu
  split at hu
  · cases hu
    rename_i e
    subst e
    exact ⟨hd, hv, by simp [Act.put, h.size, hd]⟩
  · rename_i e
    obtain ⟨h1, h2, h3⟩ := h.slot t u hu
    exact ⟨h1, h2, by simp [Act.put, Array.getElem?_setIfInBounds_ne (fun e' => e e'.symm), h3]⟩
theorem RR.ext {ρ ρ' : Env} {n m nt : Nat} {rg : T AV} {a : Act} (h : RR ρ n nt rg a) (he : Ext ρ n ρ') (hn : n ≤ m) : RR ρ' m nt rg a :=
  ⟨h.size, h.nodefer, fun t v hv => let ⟨h1, h2, h3⟩ := h.slot t v hv; ⟨h1, ok_mono hn v h2, by rw [(conc_ext he v h2).1]; exact h3⟩⟩

/-- What a block holds, as far as it is known. -/
def Row (ρ : Env) (n size : Nat) (cs : T AV) (c : Array Value) : Prop := ∀ j, j < size → ∀ v, T.get cs j = some v → ok n v ∧ scalar v = true ∧ c[j]? = some (conc ρ v)
/-- A map's entries: pairs of a key and a value, in order. -/
def ER (ρ : Env) (n : Nat) : AV → List MapEntry → Prop
  | .e, l => l = []
  | .c (.tu (.c (.i kd m) (.c v .e))) es, l => ∃ x l', l = x :: l' ∧ kd = .i64 ∧ x.key = .int .i64 m ∧ x.val = conc ρ v ∧ ok n v ∧ scalar v = true ∧ ER ρ n es l'
  | _, _ => False
def OR (ρ : Env) (n : Nat) (i : Nat) (w : World) : AO → Prop
  | .cells e size cs => ∃ c, w.heap[ρ.σ i]? = some (.cells c e (0, 0)) ∧ c.size = size ∧ Row ρ n size cs c
  | .grow e len cs => ∃ c, w.heap[ρ.σ i]? = some (.cells c e (0, 0)) ∧ c.size = ρ.κ i ∧ len ≤ ρ.κ i ∧ ρ.κ i ≤ maxLen ∧ Row ρ n len cs c
  | .iter s pos => w.heap[ρ.σ i]? = some (.stringIter s pos)
  | .dead => True
  | .ro e size cs => ∃ c fz, w.heap[ρ.σ i]? = some (.cells c e fz) ∧ Row ρ n size cs c
  | .map es => ∃ l clock, w.heap[ρ.σ i]? = some (.map l clock) ∧ ER ρ n es l.toList
def isRo : AO → Bool
  | .ro _ _ _ => true
  | _ => false
structure HR (ρ : Env) (base : Nat) (h : AH) (w : World) : Prop where
  room : base ≤ w.heap.size
  lt : ∀ i o, T.get h.objs i = some o → i < h.next
  own : ∀ i o, T.get h.objs i = some o → isRo o = false → base ≤ ρ.σ i
  base : ∀ i, i < h.next → ρ.σ i < w.heap.size
  obj : ∀ i o, T.get h.objs i = some o → OR ρ h.next i w o
  inj : ∀ i j o o', T.get h.objs i = some o → T.get h.objs j = some o' → o ≠ .dead → o' ≠ .dead → ρ.σ i = ρ.σ j → i = j
theorem OR.heap {ρ : Env} {n i : Nat} {w w' : World} {o : AO} (h : OR ρ n i w o) (hw : w'.heap[ρ.σ i]? = w.heap[ρ.σ i]?) : OR ρ n i w' o := by
  cases o <;> simp only [OR, hw] at h ⊢ <;> exact h
theorem HR.heap {ρ : Env} {base : Nat} {h : AH} {w w' : World} (hr : HR ρ base h w) (hw : w'.heap = w.heap) : HR ρ base h w' :=
  ⟨by rw [hw]; exact hr.room, hr.lt, hr.own, fun i hi => by rw [hw]; exact hr.base i hi, fun i o ho => (hr.obj i o ho).heap (by rw [hw]), hr.inj⟩
theorem Row.ext {ρ ρ' : Env} {n m size : Nat} {cs : T AV} {c : Array Value} (h : Row ρ n size cs c) (he : Ext ρ n ρ') (hn : n ≤ m) : Row ρ' m size cs c :=
  fun j hj v hv => let ⟨h1, h2, h3⟩ := h j hj v hv; ⟨ok_mono hn v h1, h2, by rw [(conc_ext he v h1).1]; exact h3⟩
theorem ER.ext {ρ ρ' : Env} {n m : Nat} (he : Ext ρ n ρ') (hn : n ≤ m) (es : AV) : ∀ (l : List MapEntry), ER ρ n es l → ER ρ' m es l := by
  induction es with
  | e => intro l h; exact h
  | c x es _ ih =>
    intro l h
    unfold ER at h
    split at h
    · rename_i e; cases e
    · rename_i _ kd mm v es' e
      cases e
      obtain ⟨y, l', rfl, h1, h2, h3, h4, h5, h6⟩ := h
      unfold ER
      exact ⟨y, l', rfl, h1, h2, by rw [(conc_ext he v h4).1]; exact h3, ok_mono hn v h4, h5, ih _ h6⟩
    · exact h.elim
  | _ => intro l h; exact h.elim
theorem OR.ext {ρ ρ' : Env} {n m i : Nat} {w : World} {o : AO} (h : OR ρ n i w o) (he : Ext ρ n ρ') (hn : n ≤ m) (hi : i < n) : OR ρ' m i w o := by
  cases o with
  | cells e size cs => obtain ⟨c, h1, h2, h3⟩ := h; exact ⟨c, by rw [(he i hi).1]; exact h1, h2, h3.ext he hn⟩
  | grow e len cs => obtain ⟨c, h1, h2, h3, h4, h5⟩ := h; exact ⟨c, by rw [(he i hi).1]; exact h1, by rw [(he i hi).2]; exact h2, by rw [(he i hi).2]; exact h3, by rw [(he i hi).2]; exact h4, h5.ext he hn⟩
  | iter s pos => show _ = _; rw [(he i hi).1]; exact h
  | dead => trivial
  | ro e size cs => obtain ⟨c, fz, h1, h2⟩ := h; exact ⟨c, fz, by rw [(he i hi).1]; exact h1, h2.ext he hn⟩
  | map es => obtain ⟨l, clock, h1, h2⟩ := h; exact ⟨l, clock, by rw [(he i hi).1]; exact h1, h2.ext he hn⟩
/-- A cell that is told. -/
theorem OR.at {ρ : Env} {n i : Nat} {w : World} {o : AO} {off : Nat} {v : AV} (h : OR ρ n i w o) (hv : AO.at o off = some v) :
    ok n v ∧ scalar v = true ∧ w.cell? ⟨ρ.σ i, off, none⟩ = some (conc ρ v) := by
  cases o with
  | cells e size cs =>
    obtain ⟨c, h1, h2, h3⟩ := h
    have hv' : Bool.rec (motive := fun _ => Option AV) none (T.get cs off) (Nat.blt off size) = some v := hv
    cases hb : Nat.blt off size with
    | false => rw [hb] at hv'; cases hv'
    | true =>
      rw [hb] at hv'
      obtain ⟨h4, h5, h6⟩ := h3 off (by simpa [Nat.blt_eq] using hb) v hv'
      exact ⟨h4, h5, by simp [World.cell?, h1, h6]⟩
  | grow e len cs =>
    obtain ⟨c, h1, h2, _, _, h3⟩ := h
    have hv' : Bool.rec (motive := fun _ => Option AV) none (T.get cs off) (Nat.blt off len) = some v := hv
    cases hb : Nat.blt off len with
    | false => rw [hb] at hv'; cases hv'
    | true =>
      rw [hb] at hv'
      obtain ⟨h4, h5, h6⟩ := h3 off (by simpa [Nat.blt_eq] using hb) v hv'
      exact ⟨h4, h5, by simp [World.cell?, h1, h6]⟩
  | iter s pos => cases hv
  | dead => cases hv
  | ro e size cs =>
    obtain ⟨c, fz, h1, h3⟩ := h
    have hv' : Bool.rec (motive := fun _ => Option AV) none (T.get cs off) (Nat.blt off size) = some v := hv
    cases hb : Nat.blt off size with
    | false => rw [hb] at hv'; cases hv'
    | true =>
      rw [hb] at hv'
      obtain ⟨h4, h5, h6⟩ := h3 off (by simpa [Nat.blt_eq] using hb) v hv'
      exact ⟨h4, h5, by simp [World.cell?, h1, h6]⟩
  | map es => cases hv
theorem setR_some {ρ : Env} {n nt : Nat} {rg : T AV} {a : Act} {dst : Option Tmp} {v : AV} {k : T AV → R} {r : AV × AH} (h : setR nt rg dst v k = some r) (hr : RR ρ n nt rg a) (hv : ok n v) :
    ∃ rg', k rg' = some r ∧ RR ρ n nt rg' (a.put dst (conc ρ v)) := by
  cases dst with
  | none => exact ⟨rg, h, hr⟩
  | some d =>
    obtain ⟨hd, h⟩ := when_some (show when (Nat.blt d nt) (T.setK rg d v k) = some r from h)
    obtain ⟨rg', h1, h2⟩ := setK_some h
    exact ⟨rg', h1, hr.put (by simpa [Nat.blt_eq] using hd) hv h2⟩
end Go.Proofs.YtcnallabiffemaaGreatDoor.Vm
