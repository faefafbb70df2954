/- Segments of triples: a map of three latches, lists of values, and the run with letters. Conditions: fewer than 2000 characters. -/
import Derived.Test.YtcnallabiffemaaGreatDoorVmXf
set_option linter.unusedSimpArgs false
set_option linter.unusedVariables false
namespace Go.Proofs.YtcnallabiffemaaGreatDoor.Vm
open Go
/-! ### The map of latches -/
noncomputable def insW (h : AH) (id : Nat) (kd : IntKind) (n : Int) (v : AV) (kk : AH → R) (_ : Tok kk) : R :=
  when (scalar v) (opt (T.get h.objs id) fun o => onMap o fun es => findM es n fun f => Option.rec (motive := fun _ => R) (appK es (.c (.tu (.c (.i kd n) (.c v .e))) .e) fun es => kk ⟨T.put h.objs id (.map es), h.next⟩) (fun _ => none) f)
noncomputable def lkW (h : AH) (id : Nat) (n : Int) (k : AV → R) (_ : Tok k) : R := opt (T.get h.objs id) fun o => onMap o fun es => findM es n fun f => opt f k
theorem ty_map63 : mapElem Tryz.prog 63 = some 3 := by kernel_rfl
section
variable (nt : Nat) (rg : T AV) (h : AH) (dst : Option Tmp) (kk : T AV → AH → R)
theorem in_map63 : wMap Tryz.prog nt rg h dst kk 63 none = setR nt rg dst (.m h.next) fun rg => kk rg ⟨T.put h.objs h.next (.map .e), h.next + 1⟩ := by
  unfold wMap
  rw [ty_map63, opt_s]
  exact wNew_n _ _ _ _ _ _ _
theorem in_ins63 (m a x : Operand) : wInsert Tryz.prog nt rg h dst kk 63 m a x = oe rg m fun m => onM m fun id => oe rg a fun a => onI a fun kd n => when (Nat.beq (kn kd) 3) (oe rg x fun v => insW h id kd n v (fun h => setR nt rg dst (.tu .e) fun rg => kk rg h) ⟨⟩) := by
  unfold wInsert
  rw [ty_map63, opt_s]
  simp only [wObj_n]
  rfl
theorem in_lk63 (m a : Operand) : wLookup Tryz.prog nt rg h dst kk 63 m a false = oe rg m fun m => onM m fun id => oe rg a fun a => onI a fun kd n => when (Nat.beq (kn kd) 3) (lkW h id n (fun v => setR nt rg dst v fun rg => kk rg h) ⟨⟩) := by
  unfold wLookup
  rw [ty_map63]
  rfl
theorem onM_m (id : Nat) (k : Nat → R) : onM (.m id) k = k id := nrfl rfl
theorem scalar_m (id : Nat) : scalar (.m id) = true := nrfl rfl
theorem kn_i : Nat.beq (kn .i64) 3 = true := nrfl rfl
end
def en (a b : Int) : AV := .tu (.c (.i .i64 a) (.c (.i .i64 b) .e))
def latch (mode : Nat) : Nat := if mode = 1 then 230 else if mode = 2 then 239 else 238
section
variable (ob : T AO) (nx n2 : Nat) (kk : AH → R) (w : Tok kk) (k : AV → R) (u : Tok k)
theorem ins1 : insW ⟨T.put ob nx (.map .e), n2⟩ nx .i64 1 (.i .i64 230) kk w = kk ⟨T.put (T.put ob nx (.map .e)) nx (.map (.c (en 1 230) .e)), n2⟩ := by
  unfold insW
  simp only [get_put, if_true, opt_s]
  rfl
theorem ins2 : insW ⟨T.put ob nx (.map (.c (en 1 230) .e)), n2⟩ nx .i64 2 (.i .i64 239) kk w = kk ⟨T.put (T.put ob nx (.map (.c (en 1 230) .e))) nx (.map (.c (en 1 230) (.c (en 2 239) .e))), n2⟩ := by
  unfold insW
  simp only [get_put, if_true, opt_s]
  rfl
theorem ins3 : insW ⟨T.put ob nx (.map (.c (en 1 230) (.c (en 2 239) .e))), n2⟩ nx .i64 3 (.i .i64 238) kk w = kk ⟨T.put (T.put ob nx (.map (.c (en 1 230) (.c (en 2 239) .e)))) nx (.map (.c (en 1 230) (.c (en 2 239) (.c (en 3 238) .e)))), n2⟩ := by
  unfold insW
  simp only [get_put, if_true, opt_s]
  rfl
theorem look (mode : Nat) (h1 : mode = 1 ∨ mode = 2 ∨ mode = 3) : lkW ⟨T.put ob nx (.map (.c (en 1 230) (.c (en 2 239) (.c (en 3 238) .e)))), n2⟩ nx (mode : Int) k u = k (.i .i64 (latch mode : Int)) := by
  unfold lkW
  simp only [get_put, if_true, opt_s]
  rcases h1 with rfl | rfl | rfl <;> rfl
end
/-! ### Lists of values -/
def Trip (mode : Nat) : List Nat → List Nat → Prop
  | [], l => l = []
  | c :: t, l => ∃ v r, Vals mode c v ∧ l = v ++ r ∧ Trip mode t r
theorem Trip.snoc {mode c : Nat} {v : List Nat} (hv : Vals mode c v) : ∀ {t l : List Nat}, Trip mode t l → Trip mode (t ++ [c]) (l ++ v)
  | [], l, h => by
    obtain rfl : l = [] := h
    exact ⟨v, [], hv, by simp, rfl⟩
  | x :: t, l, h => by
    obtain ⟨a, r, h1, rfl, h2⟩ := h
    exact ⟨a, r ++ v, h1, by simp, h2.snoc hv⟩
theorem Vals.lt {mode c : Nat} {l : List Nat} (h : Vals mode c l) : (∀ x ∈ l, x < 40) ∧ l.length ≤ 2 ∧ l ≠ [] := by
  rcases h with ⟨v, rfl, h1, h2⟩ | ⟨set, v, rfl, h1, h2, h3, h4⟩
  · refine ⟨fun x hx => ?_, by simp, by simp⟩
    simp at hx; omega
  · refine ⟨fun x hx => ?_, by simp, by simp⟩
    simp at hx; omega
def pairs : List Nat → List Nat
  | a :: b :: c :: l => (1600 * a + 40 * b + c + 1) / 256 :: (1600 * a + 40 * b + c + 1) % 256 :: pairs l
  | _ => []
def encT (mode : Nat) (l : List Nat) : List Nat := latch mode :: (pairs l ++ [254])
/-- Codewords of some characters in a mode, behind some others. -/
def Seg (mode b : Nat) (t ws : List Nat) : Prop :=
  (mode = 0 ∧ ws = encA t) ∨ (mode = 4 ∧ ws = encE t ∧ okE t) ∨ (mode = 5 ∧ ws = encB b t) ∨ ((mode = 1 ∨ mode = 2 ∨ mode = 3) ∧ ∃ l, Trip mode t l ∧ l.length % 3 = 0 ∧ l ≠ [] ∧ ws = encT mode l)
theorem getD_take (l : List Nat) (n j : Nat) (h : j < n) : (l.take n).getD j 0 = l.getD j 0 := by
  rw [List.getD_eq_getElem?_getD, List.getD_eq_getElem?_getD, List.getElem?_take, if_pos h]
theorem take_bt (s : ByteArray) (p : Nat) (h : p < s.size) : (cs s).take (p + 1) = (cs s).take p ++ [bt s p] := by
  have h' : p < (cs s).length := by rw [cs_len]; exact h
  rw [List.take_add_one, List.getElem?_eq_getElem h']
  unfold bt
  rw [List.getD_eq_getElem?_getD, List.getElem?_eq_getElem h']
  rfl
theorem mem_lt {l : List Nat} {b : Nat} (hb : 0 < b) (h : ∀ x ∈ l, x < b) (j : Nat) : l.getD j 0 < b := by
  rw [List.getD_eq_getElem?_getD]
  rcases hx : l[j]? with _ | x
  · exact hb
  · exact h x (List.mem_of_getElem? hx)
structure InvT (s : ByteArray) (mode m0 : Nat) (h0 : AH) (rg : T AV) (h : AH) (p whole fits : Nat) (v : AV) (xs : List Nat) : Prop where
  r0 : T.get rg 0 = some (.s s)
  r1 : T.get rg 1 = some (.i .i64 (mode : Int))
  r8 : T.get rg 8 = some v
  r10 : T.get rg 10 = some (.i .i64 (whole : Int))
  r11 : T.get rg 11 = some (.i .i64 (fits : Int))
  sl : SlN .i64 3 m0 h v xs
  same : Same m0 h0 h
  all : Trip mode ((cs s).take p) xs
  part : Trip mode ((cs s).take whole) (xs.take fits)
  hw : whole ≤ p
  hf : fits ≤ xs.length
  h3 : fits % 3 = 0
  len : xs.length ≤ 2 * p
  lt : ∀ x ∈ xs, x < 40
end Go.Proofs.YtcnallabiffemaaGreatDoor.Vm
