/- The abstract machine's appends, its string iterators, its struct literals. Conditions: the frame and the heap stand for the real ones. -/
import Derived.Test.YtcnallabiffemaaGreatDoorVmG
namespace Go.Proofs.YtcnallabiffemaaGreatDoor.Vm
open Go Go.RowKit

theorem up_ok {ρ : Env} {n b c : Nat} {v : AV} (h : ok n v) : conc (ρ.up n b c) v = conc ρ v := (conc_ext (up_ext ρ n b c) v h).1
theorem upL_ok {ρ : Env} {n b c : Nat} {v : AV} (h : ok n v) : concL (ρ.up n b c) v = concL ρ v := (conc_ext (up_ext ρ n b c) v h).2
section
variable {P : Program} {ρ : Env} {nt : Nat} {rg : T AV} {a : Act} {w : World} {k : T AV → AH → R} {r : AV × AH} {o : Oper} {base : Nat} {h : AH} (hr : RR ρ h.next nt rg a) (hh : HR ρ base h w)

/-- What is known of the two operands of an append, and of its element type. -/
structure App (P : Program) (ρ : Env) (h : AH) (w : World) (a : Act) (o : Oper) (e : Nat) (i : TypeInfo) (z : Value) (src : Addr) (m c : Nat) (l : AV) (t : Nat) (sv : Value) : Prop where
  hu : P.underlying t = some (.slice e)
  hi : P.info? e = some i
  hs : i.size = 1
  hb : i.bytes ≤ 4096
  hok : ok h.next l
  hlen : (concL ρ l).length = m
  hcell : ∀ j u, (concL ρ l)[j]? = some u → w.cell? (src.add j) = some u
  hone : ∀ u ∈ concL ρ l, u.oneCell' = true
  run : ∀ w' : World, (execOp a.eval o).run P w' = ((Builtin.append_ #[t, t] o.type #[sv, .slice (some src) m c]).run P w').andThen fun v w' => .ok (.value v) w'

include hr hh
theorem wIn_some {e id off len cap : Nat} {l : AV} {i : TypeInfo} {z : Value} {src : Addr} {m c t : Nat} (ha : App P ρ h w a o e i z src m c l t (conc ρ (.sl id off len cap))) (hz : i.zero = some z) (hzs : z.cells.size = 1) (h1 : wIn nt rg h o.dst k e id off len cap l = some r) (hid' : id < h.next) :
    Wrote P ρ base h w nt k r a o := by
  obtain ⟨h2, h3⟩ := when_some h1
  obtain ⟨ob, h4, h5⟩ := opt_some h3
  obtain ⟨e', size, cs, rfl, h6⟩ := onCells_some h5
  obtain ⟨h7, h8⟩ := when_some h6
  obtain ⟨hls, h8⟩ := when_some h8
  obtain ⟨cs', n, h9, h10, _, h11⟩ := putL_some (ρ := ρ) (n := h.next) l cs len _ h8 ha.hok
  obtain rfl : off = 0 := Nat.eq_of_beq_eq_true h2
  obtain rfl : e = e' := Nat.eq_of_beq_eq_true h7
  have hlsz : len ≤ size := Nat.le_of_ble_eq_true hls
  obtain ⟨c0, hc1, hc2, hc3⟩ := hh.obj id _ h4
  rw [ha.hlen] at h10
  have hl : (c0.toList.take len).length = len := by simp [hc2]; omega
  have row : ∀ (c1 : List Value), (∀ j v, n ≤ j → j < size → T.get cs j = some v → (c0.toList.take len ++ concL ρ l ++ c1).toArray[j]? = c0[j]?) → ∀ N, (N ≤ size ∨ N ≤ n) → Row ρ h.next N cs' (c0.toList.take len ++ concL ρ l ++ c1).toArray := fun c1 hc N hN j hj v hv => by
    rcases h11 j v hv with ⟨b1, b2, b3, b4, b5⟩ | ⟨b1, b2⟩
    · refine ⟨b3, b4, ?_⟩
      have : j - len < (concL ρ l).length := by rw [ha.hlen]; omega
      simp only [List.getElem?_toArray, List.append_assoc]
      rw [List.getElem?_append_right (by rw [hl]; omega), hl, List.getElem?_append_left this]
      exact b5
    · rcases b1 with b1 | b1
      · obtain ⟨d1, d2, d3⟩ := hc3 j (by omega) v b2
        refine ⟨d1, d2, ?_⟩
        simp only [List.getElem?_toArray, List.append_assoc]
        rw [List.getElem?_append_left (by rw [hl]; omega), List.getElem?_take, if_pos b1]
        simpa using d3
      · obtain ⟨d1, d2, d3⟩ := hc3 j (by omega) v b2
        exact ⟨d1, d2, by rw [hc j v b1 (by omega) b2]; exact d3⟩
  cases hcap' : Nat.ble n cap with
  | true =>
    rw [hcap'] at h9
    obtain ⟨h14, h15⟩ := when_some h9
    have hcap : n ≤ cap := Nat.le_of_ble_eq_true hcap'
    have hsz : n ≤ size := Nat.le_of_ble_eq_true h14
    have hrun : (execOp a.eval o).run P w = .ok (.value (.slice (some ⟨ρ.σ id, 0, none⟩) n cap)) (w.setRow (ρ.σ id) (c0.toList.take len ++ concL ρ l ++ c0.toList.drop (len + m)).toArray) := by
      rw [ha.run]
      have := run_append_room (P := P) w t o.type e i ha.hu ha.hi (ρ.σ id) len cap c0 hc1 src m c (concL ρ l) (by rw [ha.hs, ha.hlen]; omega) ha.hcell ha.hone (by omega) (by rw [ha.hs, ha.hlen]; omega)
      simp only [conc]
      rw [this, h10]
      simp [ha.hs, ha.hlen]
    refine ⟨_, _, .inl hrun, ?_⟩
    have hoth : ∀ b, b ≠ ρ.σ id → (w.setRow (ρ.σ id) (c0.toList.take len ++ concL ρ l ++ c0.toList.drop (len + m)).toArray).heap[b]? = w.heap[b]? := fun b hb => setRow_other w _ _ _ hb
    refine wObj_some (v := .sl id 0 n cap) h15 hr hh h4 (by simp) rfl (by simp) hoth (below_block rfl rfl rfl (by simp) (hh.own id _ h4 rfl) hoth) ?_ hid'
    refine ⟨_, setRow_heap _ _ _ _ _ _ hc1, by simp [ha.hlen, hc2]; omega, row _ (fun j v b1 hj hv => ?_) size (.inl (Nat.le_refl _))⟩
    simp only [List.getElem?_toArray, List.append_assoc]
    rw [List.getElem?_append_right (by rw [hl]; omega), hl, List.getElem?_append_right (by rw [ha.hlen]; omega), ha.hlen, List.getElem?_drop, show len + m + (j - len - m) = j by omega]
    simp
  | false =>
    rw [hcap'] at h9
    obtain ⟨hlc, h14⟩ := when_some h9
    obtain ⟨h15, h16⟩ := when_some h14
    have hlec : len ≤ cap := Nat.le_of_ble_eq_true hlc
    have hlt : n < 100000 := by simpa [Nat.blt_eq] using h15
    have hroom : ¬ len + m ≤ cap := fun hle => by
      rw [show Nat.ble n cap = true by rw [Nat.ble_eq]; omega] at hcap'; cases hcap'
    have hbytes : (len + m) * i.bytes ≤ 100000 * 4096 := Nat.mul_le_mul (by omega) ha.hb
    have hge := grownCap_ge w (len + m) cap e
    have hrun : (execOp a.eval o).run P w = .ok (.value (.slice (some ⟨w.heap.size, 0, none⟩) n (grownCap w (len + m) cap e)))
        (w.drew.alloc (.cells (c0.toList.take len ++ concL ρ l ++ (Builtin.zeroCells z.cells (grownCap w (len + m) cap e - (len + m))).toList).toArray e)) := by
      rw [ha.run]
      have := run_append_grow (P := P) w t o.type e i z ha.hu ha.hi hz ⟨ρ.σ id, 0, none⟩ len cap (c0.toList.take len) (by rw [hl, ha.hs]; omega) (fun j v hv => by
        rw [add_conc, Nat.zero_add]
        simp only [World.cell?, hc1]
        rw [List.getElem?_take] at hv
        split at hv
        · simpa using hv
        · cases hv) src m c (concL ρ l) (by rw [ha.hs, ha.hlen]; omega) ha.hcell (by omega) (by omega) (growslice_fits (by omega) (by omega))
      have harr : (c0.toList.take len).toArray ++ (concL ρ l).toArray ++ Builtin.zeroCells z.cells (grownCap w (len + m) cap e - (len + m)) =
          (c0.toList.take len ++ concL ρ l ++ (Builtin.zeroCells z.cells (grownCap w (len + m) cap e - (len + m))).toList).toArray := Array.ext' (by simp)
      rw [harr] at this
      rw [conc, this, h10]
      rfl
    refine ⟨_, _, .inl hrun, ?_⟩
    have := wNew_alloc (c := grownCap w (len + m) cap e) h16 hr hh (w' := w.drew.alloc (.cells (c0.toList.take len ++ concL ρ l ++ (Builtin.zeroCells z.cells (grownCap w (len + m) cap e - (len + m))).toList).toArray e)) rfl (below_push rfl rfl rfl hh.room rfl)
      ⟨_, by rw [up_σ]; exact push_new rfl, by rw [up_κ]; simp [ha.hlen, hc2, size_zeroCells, hzs]; omega, by rw [up_κ]; omega, by rw [up_κ]; exact grownCap_le_maxLen w _ _ e (by simp only [maxLen]; omega), (fun j hj v hv => by
        rcases h11 j v hv with ⟨b1, b2, b3, b4, b5⟩ | ⟨b1, b2⟩
        · refine ⟨ok_mono (Nat.le_succ _) v b3, b4, ?_⟩
          have : j - len < (concL ρ l).length := by rw [ha.hlen]; omega
          simp only [List.getElem?_toArray, List.append_assoc]
          rw [List.getElem?_append_right (by rw [hl]; omega), hl, List.getElem?_append_left this, up_ok b3]
          exact b5
        · obtain ⟨d1, d2, d3⟩ := hc3 j (by omega) v b2
          refine ⟨ok_mono (Nat.le_succ _) v d1, d2, ?_⟩
          simp only [List.getElem?_toArray, List.append_assoc]
          rw [List.getElem?_append_left (by rw [hl]; omega), List.getElem?_take, if_pos (by omega), up_ok d1]
          simpa using d3)⟩ (Nat.lt_succ_self _)
    have this : After ρ base h w nt k r (a.put o.dst (conc (ρ.up h.next w.heap.size (grownCap w (len + m) cap e)) (.g h.next n))) _ := this
    simpa only [conc, up_σ, up_κ] using this
theorem wFirst_some {e : Nat} {l : AV} {i : TypeInfo} {z : Value} {src : Addr} {m c t : Nat} (ha : App P ρ h w a o e i z src m c l t (conc ρ .ns)) (hz : i.zero = some z) (hzs : z.cells.size = 1) (h1 : wFirst nt rg h o.dst k e l = some r) :
    Wrote P ρ base h w nt k r a o := by
  rcases onL_some h1 with ⟨_, h2⟩ | ⟨x, l', rfl, h2⟩
  · cases h2
  obtain ⟨cs, n, h3, h4, _, h5⟩ := putL_some (ρ := ρ) (n := h.next) _ _ 0 _ h2 ha.hok
  obtain ⟨h6, h7⟩ := when_some h3
  have hlt : n < 100000 := by simpa [Nat.blt_eq] using h6
  rw [ha.hlen] at h4
  have hpos : 0 < m := by rw [← ha.hlen]; simp [concL]
  have hn : n = m := by omega
  subst hn
  have hbytes : n * i.bytes ≤ 100000 * 4096 := Nat.mul_le_mul (by omega) ha.hb
  have hge := grownCap_ge w n 0 e
  have hrun : (execOp a.eval o).run P w = .ok (.value (.slice (some ⟨w.heap.size, 0, none⟩) n (grownCap w n 0 e))) (w.drew.alloc (.cells ((concL ρ (.c x l')).toArray ++ Builtin.zeroCells z.cells (grownCap w n 0 e - n)) e)) := by
    rw [ha.run]
    have := run_append_nil (P := P) w t o.type e i z ha.hu ha.hi hz src n c (concL ρ (.c x l')) (by rw [ha.hs, ha.hlen]; omega) ha.hcell hpos (by omega) (by omega)
    simp only [conc]
    rw [this]
    rfl
  refine ⟨_, _, .inl hrun, ?_⟩
  have := wNew_alloc (c := grownCap w n 0 e) h7 hr hh (w' := w.drew.alloc (.cells ((concL ρ (.c x l')).toArray ++ Builtin.zeroCells z.cells (grownCap w n 0 e - n)) e)) rfl (below_push rfl rfl rfl hh.room rfl)
    ⟨_, by rw [up_σ]; exact push_new rfl, by rw [up_κ]; simp [ha.hlen, size_zeroCells, hzs]; omega, by rw [up_κ]; exact hge, by rw [up_κ]; exact grownCap_le_maxLen w n 0 e (by simp only [maxLen]; omega),
      Row.ext (ρ := ρ) (n := h.next) (fun j hj y hy => by
        rcases h5 j y hy with ⟨_, b2, b3, b4, b5⟩ | ⟨_, b2⟩
        · refine ⟨b3, b4, ?_⟩
          rw [Array.getElem?_append_left (by simp [ha.hlen]; omega)]
          simpa using b5
        · exact absurd (get_full b2) (by simp)) (up_ext ρ _ _ _) (Nat.le_succ _)⟩ (Nat.lt_succ_self _)
  simpa [conc, up_σ, up_κ] using this
theorem wMore_some {e id len xid : Nat} {l : AV} {i : TypeInfo} {z : Value} {src : Addr} {m c t : Nat} (ha : App P ρ h w a o e i z src m c l t (conc ρ (.g id len))) (hz : i.zero = some z) (hzs : z.cells.size = 1) (h1 : wMore nt rg h o.dst k e id len xid l = some r) :
    Wrote P ρ base h w nt k r a o := by
  rcases onL_some h1 with ⟨_, h2⟩ | ⟨x, l', rfl, h2⟩
  · cases h2
  obtain ⟨ob, h3, h4⟩ := opt_some h2
  obtain ⟨e', len', cs, rfl, h5⟩ := onGrow_some h4
  obtain ⟨h6, h7⟩ := when_some h5
  obtain ⟨h8, h9⟩ := when_some h7
  obtain ⟨_, h10⟩ := when_some h9
  obtain ⟨cs', n, h11, h12, _, h13⟩ := putL_some (ρ := ρ) (n := h.next) _ _ len _ h10 ha.hok
  obtain ⟨h14, h15⟩ := when_some h11
  obtain ⟨objs1, h16, hset⟩ := setK_some h15
  obtain rfl : len = len' := Nat.eq_of_beq_eq_true h6
  obtain rfl : e = e' := Nat.eq_of_beq_eq_true h8
  have hlt : n < 100000 := by simpa [Nat.blt_eq] using h14
  rw [ha.hlen] at h12
  have hpos : 0 < m := by rw [← ha.hlen]; simp [concL]
  obtain ⟨c0, hc1, hc2, hc3, hc4, hc5⟩ := hh.obj id _ h3
  have hid := hh.lt id _ h3
  have hk1 := hh.kill h3 (by simp) rfl hset
  have dead : ∀ j o, T.get objs1 j = some o → o ≠ .dead → j ≠ id ∧ T.get h.objs j = some o := fun j o hj hd => by
    rw [hset] at hj
    by_cases ej : j = id
    · rw [if_pos ej] at hj; exact absurd (Option.some.inj hj).symm hd
    · rw [if_neg ej] at hj; exact ⟨ej, hj⟩
  have hbytes : (len + m) * i.bytes ≤ 100000 * 4096 := Nat.mul_le_mul (by omega) ha.hb
  have hl : (c0.toList.take len).length = len := by simp [hc2]; omega
  have row : ∀ (c1 : List Value), Row ρ h.next n cs' (c0.toList.take len ++ concL ρ (.c x l') ++ c1).toArray := fun c1 j hj v hv => by
    rcases h13 j v hv with ⟨b1, b2, b3, b4, b5⟩ | ⟨b1, b2⟩
    · refine ⟨b3, b4, ?_⟩
      have : j - len < (concL ρ (.c x l')).length := by rw [ha.hlen]; omega
      simp only [List.getElem?_toArray, List.append_assoc]
      rw [List.getElem?_append_right (by rw [hl]; omega), hl, List.getElem?_append_left this]
      exact b5
    · obtain ⟨d1, d2, d3⟩ := hc5 j (by omega) v b2
      refine ⟨d1, d2, ?_⟩
      have hj' : j < len := by omega
      simp only [List.getElem?_toArray, List.append_assoc]
      rw [List.getElem?_append_left (by rw [hl]; omega), List.getElem?_take, if_pos hj']
      simpa using d3
  by_cases hroom : len + m ≤ ρ.κ id
  · have hrun : (execOp a.eval o).run P w = .ok (.value (.slice (some ⟨ρ.σ id, 0, none⟩) n (ρ.κ id))) (w.setRow (ρ.σ id) (c0.toList.take len ++ concL ρ (.c x l') ++ c0.toList.drop (len + m)).toArray) := by
      rw [ha.run]
      have := run_append_room (P := P) w t o.type e i ha.hu ha.hi (ρ.σ id) len (ρ.κ id) c0 hc1 src m c (concL ρ (.c x l')) (by rw [ha.hs, ha.hlen]; omega) ha.hcell ha.hone hroom (by rw [ha.hs, ha.hlen]; omega)
      simp only [conc]
      rw [this, h12]
      simp [ha.hs, ha.hlen]
    refine ⟨_, _, .inl hrun, ?_⟩
    have hoth : ∀ b, b ≠ ρ.σ id → (w.setRow (ρ.σ id) (c0.toList.take len ++ concL ρ (.c x l') ++ c0.toList.drop (len + m)).toArray).heap[b]? = w.heap[b]? := fun b hb => setRow_other w _ _ _ hb
    have ne : ∀ j o, T.get objs1 j = some o → o ≠ .dead → ρ.σ j ≠ ρ.σ id := fun j o hj hd es => by
      obtain ⟨d1, d2⟩ := dead j o hj hd
      exact d1 (hh.inj j id o _ d2 h3 hd (by simp) es)
    have := wNew_some (b := ρ.σ id) (c := ρ.κ id) h16 hr hk1 (w' := w.setRow (ρ.σ id) (c0.toList.take len ++ concL ρ (.c x l') ++ c0.toList.drop (len + m)).toArray) (by simp) ⟨hh.own id _ h3 rfl, by simpa using hh.base id hid⟩
      ne (fun j o hj hd => hoth _ (ne j o hj hd)) (below_block rfl rfl rfl (by simp) (hh.own id _ h3 rfl) hoth)
      ⟨_, by rw [up_σ]; exact setRow_heap _ _ _ _ _ _ hc1, by rw [up_κ]; simp [ha.hlen, hc2]; omega, by rw [up_κ]; omega, by rw [up_κ]; exact hc4, (row _).ext (up_ext ρ _ _ _) (Nat.le_succ _)⟩ (Nat.lt_succ_self _)
    refine (?_ : After ρ base h w nt k r _ _)
    have this : After ρ base h w nt k r (a.put o.dst (conc (ρ.up h.next (ρ.σ id) (ρ.κ id)) (.g h.next n))) _ := this
    simpa only [conc, up_σ, up_κ] using this
  · have hge := grownCap_ge w (len + m) (ρ.κ id) e
    have hrun : (execOp a.eval o).run P w = .ok (.value (.slice (some ⟨w.heap.size, 0, none⟩) n (grownCap w (len + m) (ρ.κ id) e)))
        (w.drew.alloc (.cells (c0.toList.take len ++ concL ρ (.c x l') ++ (Builtin.zeroCells z.cells (grownCap w (len + m) (ρ.κ id) e - (len + m))).toList).toArray e)) := by
      rw [ha.run]
      have := run_append_grow (P := P) w t o.type e i z ha.hu ha.hi hz ⟨ρ.σ id, 0, none⟩ len (ρ.κ id) (c0.toList.take len) (by rw [hl, ha.hs]; omega) (fun j v hv => by
        rw [add_conc, Nat.zero_add]
        simp only [World.cell?, hc1]
        rw [List.getElem?_take] at hv
        split at hv
        · simpa using hv
        · cases hv) src m c (concL ρ (.c x l')) (by rw [ha.hs, ha.hlen]; omega) ha.hcell (by omega) (by omega) (growslice_fits (by omega) (by omega))
      have harr : (c0.toList.take len).toArray ++ (concL ρ (.c x l')).toArray ++ Builtin.zeroCells z.cells (grownCap w (len + m) (ρ.κ id) e - (len + m)) =
          (c0.toList.take len ++ concL ρ (.c x l') ++ (Builtin.zeroCells z.cells (grownCap w (len + m) (ρ.κ id) e - (len + m))).toList).toArray := Array.ext' (by simp)
      rw [harr] at this
      rw [conc, this, h12]
      rfl
    refine ⟨_, _, .inl hrun, ?_⟩
    have := wNew_alloc (c := grownCap w (len + m) (ρ.κ id) e) h16 hr hk1 (w' := w.drew.alloc (.cells (c0.toList.take len ++ concL ρ (.c x l') ++ (Builtin.zeroCells z.cells (grownCap w (len + m) (ρ.κ id) e - (len + m))).toList).toArray e)) rfl (below_push rfl rfl rfl hh.room rfl)
      ⟨_, by rw [up_σ]; exact push_new rfl, by rw [up_κ]; simp [ha.hlen, hc2, size_zeroCells, hzs]; omega, by rw [up_κ]; omega, by rw [up_κ]; exact grownCap_le_maxLen w _ _ e (by simp only [maxLen]; omega), (row _).ext (up_ext ρ _ _ _) (Nat.le_succ _)⟩ (Nat.lt_succ_self _)
    have this : After ρ base h w nt k r (a.put o.dst (conc (ρ.up h.next w.heap.size (grownCap w (len + m) (ρ.κ id) e)) (.g h.next n))) _ := this
    simpa only [conc, up_σ, up_κ] using this
theorem wAppend_some {c : Call} {t t' : Nat} {x y : Operand} (h1 : wAppend P nt rg h o.dst k t t' x y = some r) (ho : o.op = .call c) (hc : c.callee = .builtin .append) (hx : c.args = #[x, y]) (ht : c.argTypes = #[t, t']) : Wrote P ρ base h w nt k r a o := by
  obtain ⟨e, h2, h3⟩ := opt_some h1
  have hu := elemOf_some h2
  obtain ⟨h4, h5⟩ := when_some h3
  simp only [Bool.and_eq_true] at h4
  obtain ⟨i, _, hi, _, hs, _⟩ := one_some h4.1
  have hby := small_some h4.2 hi
  obtain ⟨h6, h7⟩ := when_some h5
  obtain rfl : t = t' := Nat.eq_of_beq_eq_true h6
  obtain ⟨zv, hzv, h7⟩ := opt_some h7
  obtain ⟨i', hi', hz, hzs, _⟩ := zero1_some hzv ρ
  obtain rfl : i' = i := Option.some.inj (hi'.symm.trans hi)
  obtain ⟨sv, h8, hsok, hsv⟩ := oe_some h7 hr
  obtain ⟨xv, h9, hxok, hxv⟩ := oe_some h8 hr
  have fin : ∀ {xid xoff xlen cap' : Nat} {xo : AO}, conc ρ xv = .slice (some ⟨ρ.σ xid, xoff, none⟩) xlen cap' → T.get h.objs xid = some xo → (takeL xo xlen xoff fun l =>
      onSl sv (fun id off len cap => wIn nt rg h o.dst k e id off len cap l) (fun id len => wMore nt rg h o.dst k e id len xid l) (wFirst nt rg h o.dst k e l)) = some r → Wrote P ρ base h w nt k r a o := by
    intro xid xoff xlen cap' xo hxc h11 h12
    obtain ⟨l, h13, h14, h15, h16, h17⟩ := takeL_some (hh.obj xid xo h11) _ _ _ h12
    have app : ∀ sv', sv' = conc ρ sv → App P ρ h w a o e i' (conc ρ zv) ⟨ρ.σ xid, xoff, none⟩ xlen cap' l t sv' := fun sv' hsv' =>
      { hu := hu, hi := hi, hs := hs, hb := hby, hok := h14, hlen := h15, hcell := fun j u hju => by rw [add_conc]; exact h16 j u hju, hone := h17,
        run := fun w' => by
          subst hsv'
          simp only [execOp, ho, resolve, hc, invoke, ht, hx, builtin]
          simp [hsv, hxv, hxc] }
    rcases onSl_some h13 with ⟨id, off, len, cap, rfl, h18⟩ | ⟨id, len, rfl, h18⟩ | ⟨rfl, h18⟩
    · exact wIn_some hr hh (app _ rfl) hz (by rw [scalar_cells hzs]; rfl) h18 hsok
    · exact wMore_some hr hh (app _ rfl) hz (by rw [scalar_cells hzs]; rfl) h18
    · exact wFirst_some hr hh (app _ rfl) hz (by rw [scalar_cells hzs]; rfl) h18
  rcases onSl_some h9 with ⟨xid, xoff, xlen, xcap, rfl, h10⟩ | ⟨xid, xlen, rfl, h10⟩ | ⟨_, h10⟩
  · obtain ⟨xo, h11, h12⟩ := opt_some h10
    exact fin rfl h11 h12
  · obtain ⟨xo, h11, h12⟩ := opt_some h10
    exact fin rfl h11 h12
  · cases h10
end
end Go.Proofs.YtcnallabiffemaaGreatDoor.Vm
