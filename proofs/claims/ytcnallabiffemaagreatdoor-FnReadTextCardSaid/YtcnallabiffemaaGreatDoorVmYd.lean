/- What the decoder reads, token by token, and its state. Conditions: none. -/
import Derived.Test.YtcnallabiffemaaGreatDoorVmYc
set_option linter.unusedSimpArgs false
set_option linter.unusedVariables false
namespace Go.Proofs.YtcnallabiffemaaGreatDoor.Vm
open Go
/-- Codewords from a place on, with the characters that they stand for, up to the first pad. -/
inductive Tok' : Nat → List Nat → List Nat → Prop where
  | done (p : Nat) (rest : List Nat) (h : 2 ≤ rest.length) : Tok' p (129 :: rest) []
  | chr (p c : Nat) (ws t : List Nat) (hc : c < 128) (h : Tok' (p + 1) ws t) : Tok' p ((c + 1) :: ws) (c :: t)
  | dig (p a b : Nat) (ws t : List Nat) (ha : a < 10) (hb : b < 10) (h : Tok' (p + 1) ws t) : Tok' p ((130 + a * 10 + b) :: ws) ((48 + a) :: (48 + b) :: t)
  | edi (p : Nat) (u ws t : List Nat) (hu : okE u) (h : Tok' (p + (encE u).length) ws t) : Tok' p (encE u ++ ws) (u ++ t)
  | byt (p : Nat) (u ws t : List Nat) (hu : u.length ≤ 20) (h0 : u ≠ []) (hlt : ∀ x ∈ u, x < 128) (h : Tok' (p + (encB p u).length) ws t) : Tok' p (encB p u ++ ws) (u ++ t)
  | tri (p mode : Nat) (u l ws t : List Nat) (hm : mode = 1 ∨ mode = 2 ∨ mode = 3) (hT : Trip mode u l) (h3 : l.length % 3 = 0) (hl : l ≠ []) (h : Tok' (p + (encT mode l).length) ws t) : Tok' p (encT mode l ++ ws) (u ++ t)
theorem Tok'.len {p : Nat} {ws t : List Nat} (h : Tok' p ws t) : 3 ≤ ws.length := by
  induction h <;> simp only [List.length_cons, List.length_append] <;> omega
/-- What stands behind a latch, or where a mode goes on. -/
def Mid (md p : Nat) (rest t : List Nat) : Prop :=
  (md = 0 ∧ t = []) ∨ (md = 1 ∧ Tok' p rest t) ∨
  (md = 5 ∧ ∃ u ws t', rest = go6 0 0 (sext u) ++ ws ∧ t = u ++ t' ∧ okE u ∧ Tok' (p + (go6 0 0 (sext u)).length) ws t') ∨
  (md = 6 ∧ ∃ u ws t', rest = rz (p + 1) (hdr u.length ++ u) ++ ws ∧ t = u ++ t' ∧ u.length ≤ 20 ∧ u ≠ [] ∧ (∀ x ∈ u, x < 128) ∧ Tok' (p + (rz (p + 1) (hdr u.length ++ u)).length) ws t') ∨
  (∃ mode u l ws t', md = mode + 1 ∧ (mode = 1 ∨ mode = 2 ∨ mode = 3) ∧ rest = pairs l ++ 254 :: ws ∧ t = u ++ t' ∧ Trip mode u l ∧ l.length % 3 = 0 ∧ l ≠ [] ∧ Tok' (p + (pairs l).length + 1) ws t')
/-! ### The state -/
/-- What a slice that grows leaves as it was, the source of bits aside. -/
structure Fr (h0 : AH) (v0 : AV) (bs : Nat) (h : AH) (v : AV) : Prop where
  next : h0.next ≤ h.next
  get : ∀ j, j < h0.next → j ≠ bs → ¬ Owns v0 j → T.get h.objs j = T.get h0.objs j
  own : ∀ j, Owns v j → Owns v0 j ∨ h0.next ≤ j
structure Envd (data : AV) (bs : Nat) (h0 : AH) (v0 : AV) : Prop where
  blt : bs < h0.next
  ob : ¬ Owns v0 bs
  od : ∀ j, Owns data j → j < h0.next ∧ ¬ Owns v0 j ∧ j ≠ bs
  ne : idOf data ≠ bs
structure Dst (W : List Nat) (data : AV) (bs : Nat) (h0 : AH) (v0 : AV) (h : AH) (v : AV) (p o : Nat) (xs : List Nat) : Prop where
  bits : Bits h bs data p o
  data : Sl .u8 5 h data W
  out : Sl .u8 5 h v xs
  fr : Fr h0 v0 bs h v
section
variable {W : List Nat} {data : AV} {bs : Nat} {h0 h h' : AH} {v0 v v' : AV} {p o p' o' : Nat} {xs ys : List Nat}
theorem Dst.read (e : Envd data bs h0 v0) (d : Dst W data bs h0 v0 h v p o xs) (hb : Bits h' bs data p' o') (hr : Read h h' bs) : Dst W data bs h0 v0 h' v p' o' xs where
  bits := hb
  data := d.data.keep (by rw [hr.1]; exact Nat.le_refl _) fun j hj => hr.2 j (e.od j hj).2.2
  out := d.out.keep (by rw [hr.1]; exact Nat.le_refl _) fun j hj => hr.2 j fun ej => by
    subst ej
    rcases d.fr.own j hj with h | h
    · exact e.ob h
    · exact absurd e.blt (by omega)
  fr := ⟨by rw [hr.1]; exact d.fr.next, fun j h1 h2 h3 => by rw [hr.2 j h2]; exact d.fr.get j h1 h2 h3, d.fr.own⟩
theorem Dst.push (e : Envd data bs h0 v0) (d : Dst W data bs h0 v0 h v p o xs) (hs : Sl .u8 5 h' v' ys) (hn : h.next ≤ h'.next) (hk : ∀ j, j < h.next → ¬ Owns v j → T.get h'.objs j = T.get h.objs j) (ho : ∀ j, Owns v' j → Owns v j ∨ h.next ≤ j) : Dst W data bs h0 v0 h' v' p o ys where
  bits := d.bits.keep (hk bs (Nat.lt_of_lt_of_le e.blt d.fr.next) fun h => by
    rcases d.fr.own bs h with h | h
    · exact e.ob h
    · exact absurd e.blt (by omega))
  data := d.data.keep hn fun j hj => hk j (d.data.lt hj) fun h => by
    rcases d.fr.own j h with h | h
    · exact (e.od j hj).2.1 h
    · exact absurd (e.od j hj).1 (by omega)
  out := hs
  fr := ⟨Nat.le_trans d.fr.next hn, fun j h1 h2 h3 => by
    rw [hk j (Nat.lt_of_lt_of_le h1 d.fr.next) fun h => by
      rcases d.fr.own j h with h | h
      · exact h3 h
      · omega]
    exact d.fr.get j h1 h2 h3, fun j hj => by
    rcases ho j hj with h | h
    · exact d.fr.own j h
    · exact .inr (Nat.le_trans d.fr.next h)⟩
theorem Fr.rfl' : Fr h v bs h v := ⟨Nat.le_refl _, fun _ _ _ _ => rfl, fun _ h => .inl h⟩
/-- A further octet. -/
theorem app1s {ob : T AO} {nx : Nat} {s : AV} (hs : Sl .u8 5 ⟨ob, nx⟩ s xs) (n : Nat) (hlen : xs.length + 1 < 100000) :
    Apd ⟨T.put ob nx (.cells 5 1 (T.put (T.full (some (.i .u8 0)) depthC) 0 (.i .u8 (n : Int)))), nx + 1⟩ 42 s (.sl nx 0 1 1) fun v h' => Sl .u8 5 h' v (xs ++ [n]) ∧ nx ≤ h'.next ∧ (∀ j, j < nx → ¬ Owns s j → T.get h'.objs j = T.get ob j) ∧ ∀ j, Owns v j → Owns s j ∨ nx ≤ j := by
  have hk := Same.new ob nx (.cells 5 1 (T.put (T.full (some (.i .u8 0)) depthC) 0 (.i .u8 (n : Int))))
  obtain ⟨v, h', h1, h2, h3, h4, h5⟩ := append_num (t := 42) ty_el42 ty_os5 ty_z5 (hs.keep (Nat.le_succ _) fun j hj => hk.get j (hs.lt hj))
    (Sl.sl nx 1 (T.put (T.full (some (.i .u8 0)) depthC) 0 (.i .u8 (n : Int))) [n] (Nat.lt_succ_self _) (by simp only [get_put, if_true]) (fun j hj => by
      have : j = 0 := by simpa using hj
      subst this
      simp [get_put]) (Nat.le_refl _)) (by simp) (fun j h1 h2 => by have := hs.lt h1; cases h2; exact absurd this (Nat.lt_irrefl _)) hlen
  refine ⟨v, h', h1, h2, Nat.le_trans (Nat.le_succ _) h3, fun j hj hno => ?_, fun j hj => ?_⟩
  · rw [h4 j (by show j < nx + 1; omega) hno]
    exact hk.get j hj
  · rcases h5 j hj with h | h
    · exact .inl h
    · exact .inr (Nat.le_trans (Nat.le_succ _) h)
/-- The octets of a text. -/
theorem appRs {ob : T AO} {nx : Nat} {s : AV} {c : T AV} (hs : Sl .u8 5 ⟨ob, nx⟩ s xs) (hc : Has .u8 c ys) (n : Nat) (hn : ys.length = n) (hy : ys ≠ []) (hlen : xs.length + ys.length < 100000) :
    Apd ⟨T.put ob nx (.ro 5 n c), nx + 1⟩ 42 s (.g nx n) fun v h' => Sl .u8 5 h' v (xs ++ ys) ∧ nx ≤ h'.next ∧ (∀ j, j < nx → ¬ Owns s j → T.get h'.objs j = T.get ob j) ∧ ∀ j, Owns v j → Owns s j ∨ nx ≤ j := by
  subst hn
  have hk := Same.new ob nx (.ro 5 ys.length c)
  have hs' : Sl .u8 5 ⟨T.put ob nx (.ro 5 ys.length c), nx + 1⟩ s xs := hs.keep (Nat.le_succ _) fun j hj => hk.get j (hs.lt hj)
  obtain ⟨v, h', h1, h2, h3, h4, h5⟩ := append_key (t := 42) (x := .g nx ys.length) (ys := ys) (fun nt rg dst kk a b ha hb => by
    unfold wAppend
    rw [ty_el42, opt_s, ty_os5, when_t, Nat.beq_refl, when_t, ty_z5, opt_s, oe_t, ha, opt_s, oe_t, hb, opt_s, onSl_g]
    simp only [get_put, if_true]
    rw [opt_s, takeL_num ys 0 _ fun j hj => by rw [Nat.zero_add, at_ro, if_pos hj]; exact hc j hj]
    rfl) hs' hy (fun j hj e => by have := hs.lt hj; rw [e] at this; exact absurd this (Nat.lt_irrefl _)) hlen
  refine ⟨v, h', h1, h2, Nat.le_trans (Nat.le_succ _) h3, fun j hj hno => ?_, fun j hj => ?_⟩
  · rw [h4 j (by show j < nx + 1; omega) hno]
    exact hk.get j hj
  · rcases h5 j hj with h | h
    · exact .inl h
    · exact .inr (Nat.le_trans (Nat.le_succ _) h)
/-- A slice that lies elsewhere. -/
theorem appNs {s x : AV} (hs : Sl .u8 5 h s xs) (hx : Sl .u8 5 h x ys) (hd : ∀ j, Owns s j → ¬ Owns x j) (hy : ys ≠ []) (hlen : xs.length + ys.length < 100000) :
    Apd h 42 s x fun v h' => Sl .u8 5 h' v (xs ++ ys) ∧ h.next ≤ h'.next ∧ (∀ j, j < h.next → ¬ Owns s j → T.get h'.objs j = T.get h.objs j) ∧ ∀ j, Owns v j → Owns s j ∨ h.next ≤ j := by
  obtain ⟨v, h', h1, h2, h3, h4, h5⟩ := append_num (t := 42) ty_el42 ty_os5 ty_z5 hs hx hy hd hlen
  exact ⟨v, h', h1, h2, h3, h4, h5⟩
end
end Go.Proofs.YtcnallabiffemaaGreatDoor.Vm
