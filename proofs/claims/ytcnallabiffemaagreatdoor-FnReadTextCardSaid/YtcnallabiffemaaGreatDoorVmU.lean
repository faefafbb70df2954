/- Slices of the abstract machine as lists of numbers; appending one number, and another slice. Conditions: fewer than 100000 numbers. -/
import Derived.Test.YtcnallabiffemaaGreatDoorVmT
namespace Go.Proofs.YtcnallabiffemaaGreatDoor.Vm
open Go

/-- A tree holds numbers, from 0 on. -/
def Has (kd : IntKind) (cs : T AV) (xs : List Nat) : Prop := ∀ j (hj : j < xs.length), T.get cs j = some (.i kd (xs[j] : Int))
theorem Has.nil (kd : IntKind) (cs : T AV) : Has kd cs [] := fun j hj => absurd hj (by simp)
theorem Has.push {kd : IntKind} {cs : T AV} {xs : List Nat} (h : Has kd cs xs) (n : Nat) : Has kd (T.put cs xs.length (.i kd (n : Int))) (xs ++ [n]) := fun j hj => by
  rw [get_put]
  by_cases e : j = xs.length
  · subst e; simp
  · have hj' : j < xs.length := by simp at hj; omega
    rw [if_neg e, h j hj', List.getElem_append_left hj']
/-- Whose block a slice lies in. -/
def Owns : AV → Nat → Prop
  | .sl id _ _ _, j => id = j
  | .g id _, j => id = j
  | _, _ => False
def idOf : AV → Nat
  | .sl id _ _ _ => id
  | .g id _ => id
  | _ => 0
/-- A slice that holds numbers. -/
inductive Sl (kd : IntKind) (e : Nat) (h : AH) : AV → List Nat → Prop where
  | ns : Sl kd e h .ns []
  | g (id : Nat) (cs : T AV) (xs : List Nat) (hid : id < h.next) (ho : T.get h.objs id = some (.grow e xs.length cs)) (hx : Has kd cs xs) : Sl kd e h (.g id xs.length) xs
  | sl (id cap : Nat) (cs : T AV) (xs : List Nat) (hid : id < h.next) (ho : T.get h.objs id = some (.cells e cap cs)) (hx : Has kd cs xs) (hc : xs.length ≤ cap) : Sl kd e h (.sl id 0 xs.length cap) xs
theorem Sl.keep {kd : IntKind} {e : Nat} {h h' : AH} {v : AV} {xs : List Nat} (hs : Sl kd e h v xs) (hn : h.next ≤ h'.next) (hk : ∀ j, Owns v j → T.get h'.objs j = T.get h.objs j) : Sl kd e h' v xs := by
  cases hs with
  | ns => exact .ns
  | g id cs xs hid ho hx => exact .g id cs xs (by omega) (by rw [hk id rfl]; exact ho) hx
  | sl id cap cs xs hid ho hx hc => exact .sl id cap cs xs (by omega) (by rw [hk id rfl]; exact ho) hx hc
theorem Sl.lt {kd : IntKind} {e : Nat} {h : AH} {v : AV} {xs : List Nat} (hs : Sl kd e h v xs) {j : Nat} (hj : Owns v j) : j < h.next := by
  cases hs with
  | ns => exact hj.elim
  | g id cs xs hid ho hx => cases hj; exact hid
  | sl id cap cs xs hid ho hx hc => cases hj; exact hid
theorem Sl.ok {kd : IntKind} {e : Nat} {h : AH} {v : AV} {xs : List Nat} (hs : Sl kd e h v xs) : ok h.next v := by
  cases hs with
  | ns => trivial
  | g id cs xs hid ho hx => exact hid
  | sl id cap cs xs hid ho hx hc => exact hid
/-- The numbers of a list. -/
def numL (kd : IntKind) : List Nat → AV
  | [] => .e
  | x :: l => .c (.i kd (x : Int)) (numL kd l)
theorem putL_num {kd : IntKind} : ∀ (ys : List Nat) (cs : T AV) (xs : List Nat), Has kd cs xs → ∃ cs', (∀ k : T AV → Nat → R, putL (numL kd ys) cs xs.length k = k cs' (xs ++ ys).length) ∧ Has kd cs' (xs ++ ys) := by
  intro ys
  induction ys with
  | nil => intro cs xs h; exact ⟨cs, fun k => by simp [numL]; rfl, by simpa using h⟩
  | cons y ys ih =>
    intro cs xs h
    obtain ⟨cs', h1, h2⟩ := ih (T.put cs xs.length (.i kd (y : Int))) (xs ++ [y]) (h.push y)
    refine ⟨cs', fun k => ?_, by simpa using h2⟩
    show T.setK cs xs.length (.i kd (y : Int)) (fun cs => forceN (Nat.succ xs.length) fun off => putL (numL kd ys) cs off k) = _
    rw [setK_put, forceN_eq]
    have := h1 k
    simp only [List.length_append, List.length_singleton] at this
    rw [show Nat.succ xs.length = xs.length + 1 from rfl, this]
    simp
    congr 1
    omega
theorem takeL_num {kd : IntKind} {o : AO} : ∀ (ys : List Nat) (off : Nat) (k : AV → R), (∀ j (hj : j < ys.length), AO.at o (off + j) = some (.i kd (ys[j] : Int))) → takeL o ys.length off k = k (numL kd ys) := by
  intro ys
  induction ys with
  | nil => intro off k _; rfl
  | cons y ys ih =>
    intro off k h
    show opt (AO.at o off) (fun v => forceN (Nat.succ off) fun off => takeL o ys.length off fun l => k (.c v l)) = _
    have h0 := h 0 (by simp)
    simp only [Nat.add_zero, List.getElem_cons_zero] at h0
    rw [h0, opt_s, forceN_eq, ih (Nat.succ off) _ fun j hj => by
      have := h (j + 1) (by simp; omega)
      rw [show Nat.succ off + j = off + (j + 1) by omega]
      simpa using this]
    rfl
theorem numL_c {kd : IntKind} {ys : List Nat} (h : ys ≠ []) : ∃ x l, numL kd ys = .c x l := by
  cases ys with
  | nil => exact absurd rfl h
  | cons y ys => exact ⟨_, _, rfl⟩
/-- Appending numbers, wherever they come from. -/
theorem append_key {kd : IntKind} {e t : Nat} {h : AH} {s x : AV} {xs ys : List Nat} (key : ∀ nt rg dst (kk : T AV → AH → R) a b, T.get rg a = some s → T.get rg b = some x → wAppend Tryz.prog nt rg h dst kk t t (.tmp a) (.tmp b) =
      onSl s (fun id off len cap => wIn nt rg h dst kk e id off len cap (numL kd ys)) (fun id len => wMore nt rg h dst kk e id len (idOf x) (numL kd ys)) (wFirst nt rg h dst kk e (numL kd ys)))
    (hs : Sl kd e h s xs) (hy : ys ≠ []) (hd : ∀ j, Owns s j → ¬ j = idOf x) (hlen : xs.length + ys.length < 100000) :
    ∃ v h', (∀ nt rg dst (kk : T AV → AH → R) a b, T.get rg a = some s → T.get rg b = some x → wAppend Tryz.prog nt rg h dst kk t t (.tmp a) (.tmp b) = setR nt rg dst v fun rg => kk rg h') ∧
      Sl kd e h' v (xs ++ ys) ∧ h.next ≤ h'.next ∧ (∀ j, j < h.next → ¬ Owns s j → T.get h'.objs j = T.get h.objs j) ∧ (∀ j, Owns v j → Owns s j ∨ h.next ≤ j) := by
  obtain ⟨y0, l0, hnum⟩ := numL_c (kd := kd) hy
  cases hs with
  | ns =>
    obtain ⟨cs', h1, h2⟩ := putL_num ys (T.full none depthC) [] (Has.nil kd _)
    simp only [List.length_nil, List.nil_append] at h1 h2
    refine ⟨.g h.next ys.length, ⟨T.put h.objs h.next (.grow e ys.length cs'), h.next + 1⟩, fun nt rg dst kk a b ha hb => ?_, ?_, Nat.le_succ _, fun j hj _ => by simp only [get_put]; rw [if_neg (by omega)], fun j hj => .inr (by cases hj; omega)⟩
    · rw [key nt rg dst kk a b ha hb, onSl_ns]
      unfold wFirst
      rw [show onL (numL kd ys) none (fun _ _ => putL (numL kd ys) (T.full none depthC) 0 fun cs n => when (Nat.blt n 100000) (wNew nt rg h dst kk (.grow e n cs) fun id => .g id n)) = putL (numL kd ys) (T.full none depthC) 0 fun cs n => when (Nat.blt n 100000) (wNew nt rg h dst kk (.grow e n cs) fun id => .g id n) by rw [hnum]; rfl]
      rw [h1, blt_eq, decide_eq_true (by simp at hlen; omega), when_t, wNew_n]
    · exact .g _ cs' _ (Nat.lt_succ_self _) (by simp only [get_put, if_true]) (by simpa using h2)
  | g id cs xs hid hoo hh =>
    obtain ⟨cs', h1, h2⟩ := putL_num ys cs xs hh
    have hne : ¬ id = (idOf x) := hd id rfl
    refine ⟨.g h.next (xs ++ ys).length, ⟨T.put (T.put h.objs id .dead) h.next (.grow e (xs ++ ys).length cs'), h.next + 1⟩, fun nt rg dst kk a b ha hb => ?_, ?_, Nat.le_succ _, fun j hj hno => ?_, fun j hj => .inr (by cases hj; omega)⟩
    · rw [key nt rg dst kk a b ha hb, onSl_g]
      unfold wMore
      have hne' : (!Nat.beq id (idOf x)) = true := by
        rw [Bool.not_eq_true', Bool.eq_false_iff]
        exact fun e => hne (Nat.eq_of_beq_eq_true e)
      rw [show ∀ q : R, onL (numL kd ys) none (fun _ _ => q) = q from fun q => by rw [hnum]; rfl, hoo, opt_s]
      show when (Nat.beq xs.length xs.length) (when (Nat.beq e e) (when (!Nat.beq id _) (putL (numL kd ys) cs xs.length fun cs n => when (Nat.blt n 100000) (T.setK h.objs id .dead fun ob => wNew nt rg ⟨ob, h.next⟩ dst kk (.grow e n cs) fun id => .g id n)))) = _
      rw [Nat.beq_refl, when_t, Nat.beq_refl, when_t, hne', when_t, h1, blt_eq, decide_eq_true (by simp; omega), when_t, setK_put, wNew_n]
    · exact .g _ cs' _ (Nat.lt_succ_self _) (by simp only [get_put, if_true]) h2
    · simp only [get_put]
      rw [if_neg (by omega), if_neg (fun e => hno e.symm)]
  | sl id cap cs xs hid hoo hh hc =>
    obtain ⟨cs', h1, h2⟩ := putL_num ys cs xs hh
    by_cases hroom : (xs ++ ys).length ≤ cap
    · refine ⟨.sl id 0 (xs ++ ys).length cap, ⟨T.put h.objs id (.cells e cap cs'), h.next⟩, fun nt rg dst kk a b ha hb => ?_, ?_, Nat.le_refl _, fun j hj hno => by simp only [get_put]; rw [if_neg (fun e => hno e.symm)], fun j hj => .inl hj⟩
      · rw [key nt rg dst kk a b ha hb, onSl_sl]
        unfold wIn
        rw [Nat.beq_refl, when_t, hoo, opt_s, onCells_c, Nat.beq_refl, when_t, ble_eq, decide_eq_true hc, when_t, h1]
        simp only [ble_eq, decide_eq_true hroom]
        exact wObj_n nt rg h dst kk _ _ _
      · exact .sl id cap cs' _ hid (by simp only [get_put, if_true]) h2 hroom
    · refine ⟨.g h.next (xs ++ ys).length, ⟨T.put h.objs h.next (.grow e (xs ++ ys).length cs'), h.next + 1⟩, fun nt rg dst kk a b ha hb => ?_, ?_, Nat.le_succ _, fun j hj _ => by simp only [get_put]; rw [if_neg (by omega)], fun j hj => .inr (by cases hj; omega)⟩
      · rw [key nt rg dst kk a b ha hb, onSl_sl]
        unfold wIn
        rw [Nat.beq_refl, when_t, hoo, opt_s, onCells_c, Nat.beq_refl, when_t, ble_eq, decide_eq_true hc, when_t, h1]
        simp only [ble_eq, blt_eq, decide_eq_false hroom, show decide ((xs ++ ys).length < 100000) = true from decide_eq_true (by simp; omega), when_t]
        exact wNew_n nt rg h dst kk (.grow e (xs ++ ys).length cs') fun id => .g id (xs ++ ys).length
      · exact .g _ cs' _ (Nat.lt_succ_self _) (by simp only [get_put, if_true]) h2
/-- Appending numbers: what an append does, told for every continuation. -/
theorem append_num {kd : IntKind} {e t : Nat} {h : AH} {s x : AV} {xs ys : List Nat} {z : AV} (he : elemOf Tryz.prog t = some e) (ho : (one Tryz.prog e && small Tryz.prog e) = true) (hz : zero1 Tryz.prog e = some z)
    (hs : Sl kd e h s xs) (hx : Sl kd e h x ys) (hy : ys ≠ []) (hd : ∀ j, Owns s j → ¬ Owns x j) (hlen : xs.length + ys.length < 100000) :
    ∃ v h', (∀ nt rg dst (kk : T AV → AH → R) a b, T.get rg a = some s → T.get rg b = some x → wAppend Tryz.prog nt rg h dst kk t t (.tmp a) (.tmp b) = setR nt rg dst v fun rg => kk rg h') ∧
      Sl kd e h' v (xs ++ ys) ∧ h.next ≤ h'.next ∧ (∀ j, j < h.next → ¬ Owns s j → T.get h'.objs j = T.get h.objs j) ∧ (∀ j, Owns v j → Owns s j ∨ h.next ≤ j) := by
  have hone : one Tryz.prog e = true := by rw [Bool.and_eq_true] at ho; exact ho.1
  -- the elements
  have key : ∀ nt rg dst (kk : T AV → AH → R) a b, T.get rg a = some s → T.get rg b = some x → wAppend Tryz.prog nt rg h dst kk t t (.tmp a) (.tmp b) =
      onSl s (fun id off len cap => wIn nt rg h dst kk e id off len cap (numL kd ys)) (fun id len => wMore nt rg h dst kk e id len (idOf x) (numL kd ys)) (wFirst nt rg h dst kk e (numL kd ys)) := by
    intro nt rg dst kk a b ha hb
    unfold wAppend
    rw [he, opt_s, ho, when_t, Nat.beq_refl, when_t, hz, opt_s, oe_t, ha, opt_s, oe_t, hb, opt_s]
    cases hx with
    | ns => exact absurd rfl hy
    | g id cs ys hid hoo hh =>
      rw [onSl_g, hoo, opt_s, takeL_num ys 0 _ fun j hj => by rw [Nat.zero_add, at_grow, if_pos hj]; exact hh j hj]
      rfl
    | sl id cap cs ys hid hoo hh hc =>
      rw [onSl_sl, hoo, opt_s, takeL_num ys 0 _ fun j hj => by rw [Nat.zero_add, at_cells, if_pos (by omega)]; exact hh j hj]
      rfl
  refine append_key key hs hy (fun j hj e => ?_) hlen
  cases hx with
  | ns => exact hy rfl
  | g id' cs ys hid hoo hh => exact hd j hj e.symm
  | sl id' cap cs ys hid hoo hh hc => exact hd j hj e.symm
/-- A slice in a later heap, all its own since a place m. -/
structure SlN (kd : IntKind) (e m : Nat) (h : AH) (v : AV) (xs : List Nat) : Prop where
  sl : Sl kd e h v xs
  own : ∀ j, Owns v j → m ≤ j
theorem push_any {kd : IntKind} {e t m : Nat} {h h1 : AH} {s : AV} {xs ys : List Nat} {z : AV} (he : elemOf Tryz.prog t = some e) (ho : (one Tryz.prog e && small Tryz.prog e) = true) (hz : zero1 Tryz.prog e = some z)
    (hs : SlN kd e m h s xs) (hm : m ≤ h.next) (hn : h1.next = h.next + 1) (hk : ∀ j, j < h.next → T.get h1.objs j = T.get h.objs j) (hx : Sl kd e h1 (.sl h.next 0 ys.length ys.length) ys) (hy : ys ≠ []) (hlen : xs.length + ys.length < 100000) :
    ∃ v h', (∀ nt rg dst (kk : T AV → AH → R) a b, T.get rg a = some s → T.get rg b = some (.sl h.next 0 ys.length ys.length) → wAppend Tryz.prog nt rg h1 dst kk t t (.tmp a) (.tmp b) = setR nt rg dst v fun rg => kk rg h') ∧
      SlN kd e m h' v (xs ++ ys) ∧ h.next ≤ h'.next ∧ ∀ j, j < h.next → ¬ Owns s j → T.get h'.objs j = T.get h.objs j := by
  obtain ⟨v, h', g1, g2, g3, g4, g5⟩ := append_num (h := h1) he ho hz (hs.sl.keep (by omega) fun j hj => hk j (hs.sl.lt hj)) hx hy (fun j hj hj' => by have := hs.sl.lt hj; cases hj'; omega) hlen
  exact ⟨v, h', g1, ⟨g2, fun j hj => by rcases g5 j hj with h | h; exact hs.own j h; omega⟩, by omega, fun j hj hno => by rw [g4 j (by omega) hno, hk j hj]⟩
theorem push1 {kd : IntKind} {e t m : Nat} {h : AH} {s : AV} {xs : List Nat} {z : AV} (he : elemOf Tryz.prog t = some e) (ho : (one Tryz.prog e && small Tryz.prog e) = true) (hz : zero1 Tryz.prog e = some z)
    (hs : SlN kd e m h s xs) (hm : m ≤ h.next) (n : Nat) (hlen : xs.length + 1 < 100000) :
    ∃ v h', (∀ nt rg dst (kk : T AV → AH → R) a b, T.get rg a = some s → T.get rg b = some (.sl h.next 0 1 1) → wAppend Tryz.prog nt rg ⟨T.put h.objs h.next (.cells e 1 (T.put (T.full (some z) depthC) 0 (.i kd (n : Int)))), h.next + 1⟩ dst kk t t (.tmp a) (.tmp b) = setR nt rg dst v fun rg => kk rg h') ∧
      SlN kd e m h' v (xs ++ [n]) ∧ h.next ≤ h'.next ∧ ∀ j, j < h.next → ¬ Owns s j → T.get h'.objs j = T.get h.objs j :=
  push_any (h1 := ⟨T.put h.objs h.next (.cells e 1 (T.put (T.full (some z) depthC) 0 (.i kd (n : Int)))), h.next + 1⟩) he ho hz hs hm rfl (fun j hj => by simp only [get_put]; rw [if_neg (by omega)])
    (.sl h.next 1 (T.put (T.full (some z) depthC) 0 (.i kd (n : Int))) [n] (Nat.lt_succ_self _) (by simp only [get_put, if_true]) (fun j hj => by
      have : j = 0 := by simpa using hj
      subst this
      simp [get_put]) (Nat.le_refl _)) (by simp) hlen
theorem push2 {kd : IntKind} {e t m : Nat} {h : AH} {s : AV} {xs : List Nat} {z : AV} (he : elemOf Tryz.prog t = some e) (ho : (one Tryz.prog e && small Tryz.prog e) = true) (hz : zero1 Tryz.prog e = some z)
    (hs : SlN kd e m h s xs) (hm : m ≤ h.next) (n q : Nat) (hlen : xs.length + 2 < 100000) :
    ∃ v h', (∀ nt rg dst (kk : T AV → AH → R) a b, T.get rg a = some s → T.get rg b = some (.sl h.next 0 2 2) → wAppend Tryz.prog nt rg ⟨T.put h.objs h.next (.cells e 2 (T.put (T.put (T.full (some z) depthC) 0 (.i kd (n : Int))) 1 (.i kd (q : Int)))), h.next + 1⟩ dst kk t t (.tmp a) (.tmp b) = setR nt rg dst v fun rg => kk rg h') ∧
      SlN kd e m h' v (xs ++ [n, q]) ∧ h.next ≤ h'.next ∧ ∀ j, j < h.next → ¬ Owns s j → T.get h'.objs j = T.get h.objs j :=
  push_any (h1 := ⟨T.put h.objs h.next (.cells e 2 (T.put (T.put (T.full (some z) depthC) 0 (.i kd (n : Int))) 1 (.i kd (q : Int)))), h.next + 1⟩) he ho hz hs hm rfl (fun j hj => by simp only [get_put]; rw [if_neg (by omega)])
    (.sl h.next 2 (T.put (T.put (T.full (some z) depthC) 0 (.i kd (n : Int))) 1 (.i kd (q : Int))) [n, q] (Nat.lt_succ_self _) (by simp only [get_put, if_true]) (fun j hj => by
      have : j = 0 ∨ j = 1 := by simp at hj; omega
      rcases this with rfl | rfl <;> simp [get_put]) (Nat.le_refl _)) (by simp) hlen
end Go.Proofs.YtcnallabiffemaaGreatDoor.Vm
