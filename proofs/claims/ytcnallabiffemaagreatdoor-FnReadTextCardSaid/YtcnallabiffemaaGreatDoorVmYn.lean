/- The decoder's main loop: run with letters. Conditions: codewords with their characters. -/
import Derived.Test.YtcnallabiffemaaGreatDoorVmYe
import Derived.Test.YtcnallabiffemaaGreatDoorVmYh
import Derived.Test.YtcnallabiffemaaGreatDoorVmYi
import Derived.Test.YtcnallabiffemaaGreatDoorVmYj
import Derived.Test.YtcnallabiffemaaGreatDoorVmYm
set_option linter.unusedSimpArgs false
set_option linter.unusedVariables false
namespace Go.Proofs.YtcnallabiffemaaGreatDoor.Vm
open Go
theorem ty_map69 : (mapElem Tryz.prog 69).isSome = true := by kernel_rfl
theorem in_map69 (nt : Nat) (rg : T AV) (h : AH) (dst : Option Tmp) (kk : T AV → AH → R) : wMap Tryz.prog nt rg h dst kk 69 none = setR nt rg dst (.m h.next) fun rg => kk rg ⟨T.put h.objs h.next (.map .e), h.next + 1⟩ := by
  unfold wMap
  have := ty_map69
  rcases hx : mapElem Tryz.prog 69 with _ | x
  · rw [hx] at this; cases this
  · rw [opt_s]
    exact wNew_n _ _ _ _ _ _ _
theorem mkW_lc (h : AH) (l c e : Nat) (z : AV) (k : AV → AH → R) (w : Tok k) (hl : l ≤ c) (hn : c < 100000) : mkW h (l : Int) (c : Int) e z k w = k (.sl h.next 0 l c) ⟨T.put h.objs h.next (.cells e c (T.full (some z) depthC)), h.next + 1⟩ := by
  unfold mkW
  rw [nat2_n, decide_eq_true hl, decide_eq_true hn]
  rfl
theorem mkW_a (h : AH) (e : Nat) (z : AV) (k : AV → AH → R) (w : Tok k) : mkW h 0 100 e z k w = k (.sl h.next 0 0 100) ⟨T.put h.objs h.next (.cells e 100 (T.full (some z) depthC)), h.next + 1⟩ := mkW_lc h 0 100 e z k w (by omega) (by omega)
theorem mkW_b (h : AH) (e : Nat) (z : AV) (k : AV → AH → R) (w : Tok k) : mkW h 0 0 e z k w = k (.sl h.next 0 0 0) ⟨T.put h.objs h.next (.cells e 0 (T.full (some z) depthC)), h.next + 1⟩ := mkW_lc h 0 0 e z k w (by omega) (by omega)
theorem mkW_c (h : AH) (e : Nat) (z : AV) (k : AV → AH → R) (w : Tok k) : mkW h 0 1 e z k w = k (.sl h.next 0 0 1) ⟨T.put h.objs h.next (.cells e 1 (T.full (some z) depthC)), h.next + 1⟩ := mkW_lc h 0 1 e z k w (by omega) (by omega)
theorem f41 {P : Program} {ex : Runner} {h : AH} {id : Nat} {n : Int} (hm : T.get h.objs id = some (.map .e)) (k : AV → AH → R) (w : Tok k) : cl P ex false 41 (.c (.m id) (.c (.i .i64 n) .e)) h k w = k (.b false) h := by
  show when true (o41 (.c (.m id) (.c (.i .i64 n) .e)) h k) = _
  rw [when_t]
  show opt (T.get h.objs id) (fun o => onMap o fun es => isE es (k (.b false) h)) = _
  rw [hm]
  rfl
def strOf (xs : List Nat) (s : ByteArray) : ByteArray := xs.foldl (fun s m => s.push (UInt8.ofNat m)) s
theorem strL_num : ∀ (xs : List Nat) (s : ByteArray) (k : ByteArray → R), strL (numL .u8 xs) s k = k (strOf xs s)
  | [], s, k => rfl
  | x :: xs, s, k => by
    show strL (numL .u8 xs) (s.push (UInt8.ofNat x)) k = _
    rw [strL_num xs]
    rfl
theorem cs_push (s : ByteArray) (m : Nat) (hm : m < 256) : cs (s.push (UInt8.ofNat m)) = cs s ++ [m] := by
  unfold cs
  show (s.data.push (UInt8.ofNat m)).toList.map UInt8.toNat = _
  rw [Array.toList_push, List.map_append]
  congr 1
  show [(UInt8.ofNat m).toNat] = [m]
  simp [UInt8.toNat_ofNat', Nat.mod_eq_of_lt hm]
theorem cs_strOf : ∀ (xs : List Nat) (s : ByteArray), (∀ x ∈ xs, x < 256) → cs (strOf xs s) = cs s ++ xs
  | [], s, _ => by simp [strOf]
  | x :: xs, s, h => by
    show cs (strOf xs (s.push (UInt8.ofNat x))) = _
    rw [cs_strOf xs _ fun y hy => h y (by simp [hy]), cs_push s x (h x (by simp)), List.append_assoc]
    rfl
noncomputable def bsW (h : AH) (v : AV) (k : ByteArray → R) (_ : Tok k) : R := onSl v (fun id off len _ => opt (T.get h.objs id) fun o => takeL o len off fun l => strL l ⟨#[]⟩ k) (fun id len => opt (T.get h.objs id) fun o => takeL o len 0 fun l => strL l ⟨#[]⟩ k) none
set_option maxRecDepth 100000 in
theorem in_cv42_9 (nt : Nat) (rg : T AV) (h : AH) (dst : Option Tmp) (kk : T AV → AH → R) (x : Operand) : wConv Tryz.prog nt rg h dst kk 42 9 x = oe rg x fun v => bsW h v (fun s => setR nt rg dst (.s s) fun rg => kk rg h) ⟨⟩ := by
  unfold wConv
  rw [ty_cv42_9]
  show oe rg x _ = oe rg x _
  congr 1
theorem Sl.bs {h : AH} {v : AV} {xs : List Nat} (hs : Sl .u8 5 h v xs) (hx : xs ≠ []) (k : ByteArray → R) (w : Tok k) : bsW h v k w = k (strOf xs ⟨#[]⟩) := by
  cases hs with
  | ns => exact absurd rfl hx
  | g id cs ys hid ho hh =>
    show opt (T.get h.objs id) (fun o => takeL o xs.length 0 fun l => strL l ⟨#[]⟩ k) = _
    rw [ho, opt_s, takeL_num xs 0 _ fun j hj => by rw [Nat.zero_add, at_grow, if_pos hj]; exact hh j hj, strL_num]
  | sl id cap cs ys hid ho hh hc =>
    show opt (T.get h.objs id) (fun o => takeL o xs.length 0 fun l => strL l ⟨#[]⟩ k) = _
    rw [ho, opt_s, takeL_num xs 0 _ fun j hj => by rw [Nat.zero_add, at_cells, if_pos (by omega)]; exact hh j hj, strL_num]
attribute [local go_sem ↓] in_map69 in_cv42_9
attribute [local go_sem] mkW_a mkW_b mkW_c kn_i br_dt br_df
theorem br_nt {p : Prop} {_i : Decidable p} (x y : R) (w : Tok (x, y)) (h : p) : br (!decide p) x y w = y := by rw [decide_eq_true h]; rfl
theorem br_nf {p : Prop} {_i : Decidable p} (x y : R) (w : Tok (x, y)) (h : ¬p) : br (!decide p) x y w = x := by rw [decide_eq_false h]; rfl
attribute [local go_sem] br_nt br_nf
structure InvD (W : List Nat) (data : AV) (bs : Nat) (total : List Nat) (rg : T AV) (h0 h : AH) (md p : Nat) (v v2 : AV) (k2 : Nat) (xs t : List Nat) : Prop where
  r0 : T.get rg 0 = some data
  r4 : T.get rg 4 = some (.p bs 0)
  r5 : T.get rg 5 = some v
  r6 : T.get rg 6 = some (.sl (bs + 2) 0 0 0)
  r7 : T.get rg 7 = some v2
  r8 : T.get rg 8 = some (.i .i64 (md : Int))
  r9 : T.get rg 9 = some (.m (bs + 4))
  r10 : T.get rg 10 = some (.i .i64 0)
  r11 : T.get rg 11 = some (.b false)
  bits : Bits h bs data p 0
  data : Sl .u8 5 h data W
  out : Sl .u8 5 h v xs
  segs : SlV h v2 k2
  map : T.get h.objs (bs + 4) = some (.map .e)
  lt : bs + 5 ≤ h.next
  ov : ∀ j, Owns v j → j = bs + 1 ∨ bs + 5 ≤ j
  ov2 : ∀ j, Owns v2 j → j = bs + 3 ∨ bs + 5 ≤ j
  dis : ∀ j, Owns v j → ¬ Owns v2 j
  mid : Mid md p (W.drop p) t
  all : xs ++ t = total
  pl : p ≤ W.length
  k2p : k2 ≤ p
  same : ∀ j, j < bs → T.get h.objs j = T.get h0.objs j
section
variable {W : List Nat} {data : AV} {bs : Nat} {total : List Nat} {rg rg' : T AV} {h0 h h' : AH} {md md' p p' : Nat} {v v' v2 : AV} {k2 : Nat} {xs xs' t t' : List Nat}
theorem InvD.envd (i : InvD W data bs total rg h0 h md p v v2 k2 xs t) (hdl : ∀ j, Owns data j → j < bs) (hne : idOf data ≠ bs) : Envd data bs h v where
  blt := by have := i.lt; omega
  ob := fun ho => by have := i.ov _ ho; omega
  od := fun j hj => ⟨by have := hdl j hj; have := i.lt; omega, fun ho => by have := hdl j hj; have := i.ov _ ho; omega, by have := hdl j hj; omega⟩
  ne := hne
theorem InvD.dst (i : InvD W data bs total rg h0 h md p v v2 k2 xs t) : Dst W data bs h v h v p 0 xs := ⟨i.bits, i.data, i.out, Fr.rfl'⟩
theorem InvD.step (i : InvD W data bs total rg h0 h md p v v2 k2 xs t) (d : Dst W data bs h v h' v' p' 0 xs') (hm : Mid md' p' (W.drop p') t') (ha : xs' ++ t' = total) (hp : p' ≤ W.length) (hpp : p ≤ p')
    (r0 : T.get rg' 0 = some data) (r4 : T.get rg' 4 = some (.p bs 0)) (r5 : T.get rg' 5 = some v') (r6 : T.get rg' 6 = some (.sl (bs + 2) 0 0 0)) (r7 : T.get rg' 7 = some v2) (r8 : T.get rg' 8 = some (.i .i64 (md' : Int))) (r9 : T.get rg' 9 = some (.m (bs + 4))) (r10 : T.get rg' 10 = some (.i .i64 0)) (r11 : T.get rg' 11 = some (.b false)) :
    InvD W data bs total rg' h0 h' md' p' v' v2 k2 xs' t' where
  r0 := r0
  r4 := r4
  r5 := r5
  r6 := r6
  r7 := r7
  r8 := r8
  r9 := r9
  r10 := r10
  r11 := r11
  bits := d.bits
  data := d.data
  out := d.out
  segs := i.segs.keep d.fr.next fun j hj => d.fr.get j (i.segs.lt hj) (by have := i.ov2 j hj; omega) fun ho => i.dis j ho hj
  map := by rw [d.fr.get (bs + 4) (by have := i.lt; omega) (by omega) fun ho => by have := i.ov _ ho; omega]; exact i.map
  lt := Nat.le_trans i.lt d.fr.next
  ov := fun j hj => by
    rcases d.fr.own j hj with h | h
    · exact i.ov j h
    · have := i.lt; omega
  ov2 := i.ov2
  dis := fun j hj h2 => by
    rcases d.fr.own j hj with h | h
    · exact i.dis j h h2
    · have := i.segs.lt h2; omega
  mid := hm
  all := ha
  pl := hp
  k2p := Nat.le_trans i.k2p hpp
  same := fun j hj => by rw [d.fr.get j (by have := i.lt; omega) (by omega) fun ho => by have := i.ov _ ho; omega]; exact i.same j hj
end
set_option maxHeartbeats 4000000 in
set_option maxRecDepth 100000 in
theorem f18 {m : Nat} {h : AH} {data : AV} {W total : List Nat} (hm : 60000 ≤ m) (hd : Sl .u8 5 h data W) (hW : W.length < 4000) (hlt : ∀ x ∈ W, x < 256) (htok : Tok' 0 W total) (ht : total.length < 5000) (ht0 : total ≠ []) (htl : ∀ x ∈ total, x < 256) (hne : idOf data ≠ h.next) :
    Runs (fun k => cl Tryz.prog (exec Tryz.prog m) false 18 (.c data .e) h k ⟨⟩) fun r h' => ∃ u s, r = .tu (.c u (.c .ni .e)) ∧ Res h' u s ∧ cs s = total ∧ Same h.next h h' := by
  obtain ⟨m, rfl⟩ : ∃ n, m = n + 100 := ⟨m - 100, by omega⟩
  refine Runs.of_eq (fun k => cl_in Tryz.func18 rfl (by kernel_rfl) Tryz.ntmps18 Tryz.results18 rfl rfl _ _ _ _ _ _) ?_
  simp -dsimp (disch := omega) only [go_sem, ↓reduceIte, Nat.reduceAdd, Nat.reduceSub, Nat.reduceMul, Nat.reduceLeDiff, Nat.reduceLT, Nat.reduceEqDiff, Nat.reduceBEq, Int.reduceEq, Int.reduceLT, Int.reduceLE, Int.reduceNeg, Int.reduceAdd, Int.reduceSub, Int.reduceMul, beq_self_eq_true, Nat.zero_add]
  refine Runs.bind (f32 (by omega) hd) ?_
  rintro _ h1 ⟨rfl, b1, b2, b3⟩
  simp -dsimp (disch := omega) only [go_sem, ↓reduceIte, Nat.reduceAdd, Nat.reduceSub, Nat.reduceMul, Nat.reduceLeDiff, Nat.reduceLT, Nat.reduceEqDiff, Nat.reduceBEq, Int.reduceEq, Int.reduceLT, Int.reduceLE, Int.reduceNeg, Int.reduceAdd, Int.reduceSub, Int.reduceMul, beq_self_eq_true, Nat.zero_add]
  have hdl : ∀ j, Owns data j → j < h.next := fun j hj => hd.lt hj
  have hd1 : Sl .u8 5 h1 data W := hd.keep b2.next fun j hj => b2.get j (hd.lt hj)
  generalize hbs : h.next = bs at *
  cases h1 with | mk ob nx =>
  obtain rfl : nx = bs + 1 := b3
  refine Runs.loop (loop_rule 45000 (fun i rg h' => ∃ (md p : Nat) (v v2 : AV) (k2 : Nat) (xs t : List Nat), p + i = W.length ∧ InvD W data bs total rg h h' md p v v2 k2 xs t)
    (Q := fun e rg h' => e = .exit 0 ∧ ∃ (p : Nat) (v v2 : AV) (k2 : Nat), InvD W data bs total rg h h' 0 p v v2 k2 total []) ?_ W.length _ _ _ (by omega)
    ⟨1, 0, .sl (bs + 1) 0 0 100, .sl (bs + 3) 0 0 1, 0, [], total, by omega, ⟨(by (try simp only [get_put, ↓reduceIte, Nat.reduceEqDiff]) <;> first | assumption | rfl), (by (try simp only [get_put, ↓reduceIte, Nat.reduceEqDiff]) <;> first | assumption | rfl), (by (try simp only [get_put, ↓reduceIte, Nat.reduceEqDiff]) <;> first | assumption | rfl), (by (try simp only [get_put, ↓reduceIte, Nat.reduceEqDiff]) <;> first | assumption | rfl), (by (try simp only [get_put, ↓reduceIte, Nat.reduceEqDiff]) <;> first | assumption | rfl), (by (try simp only [get_put, ↓reduceIte, Nat.reduceEqDiff]) <;> first | assumption | rfl), (by (try simp only [get_put, ↓reduceIte, Nat.reduceEqDiff]) <;> first | assumption | rfl), (by (try simp only [get_put, ↓reduceIte, Nat.reduceEqDiff]) <;> first | assumption | rfl), (by (try simp only [get_put, ↓reduceIte, Nat.reduceEqDiff]) <;> first | assumption | rfl), ?_, ?_, ?_, ?_, ?_, ?_, ?_, ?_, ?_, .inr (.inl ⟨rfl, htok⟩), rfl, by omega, by omega, ?_⟩⟩) ?_
  · rintro m i rg h' hm ⟨md, p, v, v2, k2, xs, t, pi, hi⟩
    obtain ⟨m, rfl⟩ : ∃ n, m = n + 100 := ⟨m - 100, by omega⟩
    have r0 := hi.r0; have r4 := hi.r4; have r5 := hi.r5; have r6 := hi.r6; have r7 := hi.r7; have r8 := hi.r8; have r9 := hi.r9; have r10 := hi.r10; have r11 := hi.r11
    have e := hi.envd hdl hne
    have d := hi.dst
    have hal := hi.all
    have hxl : xs.length < 5000 := by rw [← hal, List.length_append] at ht; omega
    have hmid := hi.mid
    have hW5 : W.length < 5000 := by omega
    by_cases hmd : md = 0
    · subst hmd
      have ht' : t = [] := by
        rcases hmid with ⟨_, h⟩ | ⟨h, _⟩ | ⟨h, _⟩ | ⟨h, _⟩ | ⟨mode, _, _, _, _, h, _⟩
        · exact h
        · cases h
        · cases h
        · cases h
        · omega
      subst ht'
      rw [List.append_nil] at hal
      subst hal
      simp -dsimp (disch := omega) only [go_sem, ↓reduceIte, Nat.reduceAdd, Nat.reduceSub, Nat.reduceMul, Nat.reduceLeDiff, Nat.reduceLT, Nat.reduceEqDiff, Nat.reduceBEq, Int.reduceEq, Int.reduceLT, Int.reduceLE, Int.reduceNeg, Int.reduceAdd, Int.reduceSub, Int.reduceMul, beq_self_eq_true, Nat.zero_add, gt_of r0, gt_of r4, gt_of r5, gt_of r6, gt_of r7, gt_of r8, gt_of r9, gt_of r10, gt_of r11]
      exact RunsC.leave ⟨rfl, p, v, v2, k2, ⟨(by (try simp only [get_put, ↓reduceIte, Nat.reduceEqDiff]) <;> first | assumption | rfl), (by (try simp only [get_put, ↓reduceIte, Nat.reduceEqDiff]) <;> first | assumption | rfl), (by (try simp only [get_put, ↓reduceIte, Nat.reduceEqDiff]) <;> first | assumption | rfl), (by (try simp only [get_put, ↓reduceIte, Nat.reduceEqDiff]) <;> first | assumption | rfl), (by (try simp only [get_put, ↓reduceIte, Nat.reduceEqDiff]) <;> first | assumption | rfl), (by (try simp only [get_put, ↓reduceIte, Nat.reduceEqDiff]) <;> first | assumption | rfl), (by (try simp only [get_put, ↓reduceIte, Nat.reduceEqDiff]) <;> first | assumption | rfl), (by (try simp only [get_put, ↓reduceIte, Nat.reduceEqDiff]) <;> first | assumption | rfl), (by (try simp only [get_put, ↓reduceIte, Nat.reduceEqDiff]) <;> first | assumption | rfl), hi.bits, hi.data, hi.out, hi.segs, hi.map, hi.lt, hi.ov, hi.ov2, hi.dis, hi.mid, hi.all, hi.pl, hi.k2p, hi.same⟩⟩
    · have hlen : 1 ≤ (W.drop p).length := by
        rcases hmid with ⟨h, _⟩ | ⟨_, h⟩ | ⟨_, u, ws, t', h, _, _, hk⟩ | ⟨_, u, ws, t', h, _, _, _, _, hk⟩ | ⟨mode, u, l, ws, t', _, _, h, _, _, _, _, hk⟩
        · exact absurd h hmd
        · have := h.len; omega
        · rw [h, List.length_append]; have := hk.len; omega
        · rw [h, List.length_append]; have := hk.len; omega
        · rw [h, List.length_append, List.length_cons]; omega
      rw [List.length_drop] at hlen
      have hav : (0 : Int) < ((8 * (W.length - p) - 0 : Nat) : Int) := by omega
      rcases hmid with ⟨h, _⟩ | ⟨em, htk⟩ | ⟨em, u, ws, t', hw, et, hok, hk⟩ | ⟨em, u, ws, t', hw, et, hu20, hu0, hu128, hk⟩ | ⟨mode, u, l, ws, t', em, hmode, hw, et, hT, hl3, hl0, hk⟩
      · exact absurd h hmd
      · simp -dsimp (disch := omega) only [go_sem, ↓reduceIte, Nat.reduceAdd, Nat.reduceSub, Nat.reduceMul, Nat.reduceLeDiff, Nat.reduceLT, Nat.reduceEqDiff, Nat.reduceBEq, Int.reduceEq, Int.reduceLT, Int.reduceLE, Int.reduceNeg, Int.reduceAdd, Int.reduceSub, Int.reduceMul, beq_self_eq_true, Nat.zero_add, gt_of r0, gt_of r4, gt_of r5, gt_of r6, gt_of r7, gt_of r8, gt_of r9, gt_of r10, gt_of r11, f33 d.bits d.data hW5 hi.pl (by omega) (fun _ => rfl)]
        refine RunsC.bind (f34 (by omega) e hW5 hlt d htk hal ht) ?_
        rintro _ h2 ⟨md', p', v', xs', t', rfl, ⟨q1, q2⟩, d2, hm2, ha2⟩
        simp -dsimp (disch := omega) only [go_sem, ↓reduceIte, Nat.reduceAdd, Nat.reduceSub, Nat.reduceMul, Nat.reduceLeDiff, Nat.reduceLT, Nat.reduceEqDiff, Nat.reduceBEq, Int.reduceEq, Int.reduceLT, Int.reduceLE, Int.reduceNeg, Int.reduceAdd, Int.reduceSub, Int.reduceMul, beq_self_eq_true, Nat.zero_add, gt_of r0, gt_of r4, gt_of r5, gt_of r6, gt_of r7, gt_of r8, gt_of r9, gt_of r10, gt_of r11]
        exact RunsC.again (W.length - p') (by omega) ⟨md', p', v', v2, k2, xs', t', by omega, hi.step d2 hm2 ha2 q2 (by omega) (by (try simp only [get_put, ↓reduceIte, Nat.reduceEqDiff]) <;> first | assumption | rfl) (by (try simp only [get_put, ↓reduceIte, Nat.reduceEqDiff]) <;> first | assumption | rfl) (by (try simp only [get_put, ↓reduceIte, Nat.reduceEqDiff]) <;> first | assumption | rfl) (by (try simp only [get_put, ↓reduceIte, Nat.reduceEqDiff]) <;> first | assumption | rfl) (by (try simp only [get_put, ↓reduceIte, Nat.reduceEqDiff]) <;> first | assumption | rfl) (by (try simp only [get_put, ↓reduceIte, Nat.reduceEqDiff]) <;> first | assumption | rfl) (by (try simp only [get_put, ↓reduceIte, Nat.reduceEqDiff]) <;> first | assumption | rfl) (by (try simp only [get_put, ↓reduceIte, Nat.reduceEqDiff]) <;> first | assumption | rfl) (by (try simp only [get_put, ↓reduceIte, Nat.reduceEqDiff]) <;> first | assumption | rfl)⟩
      · subst et
        have hws := hk.len
        simp -dsimp (disch := omega) only [go_sem, ↓reduceIte, Nat.reduceAdd, Nat.reduceSub, Nat.reduceMul, Nat.reduceLeDiff, Nat.reduceLT, Nat.reduceEqDiff, Nat.reduceBEq, Int.reduceEq, Int.reduceLT, Int.reduceLE, Int.reduceNeg, Int.reduceAdd, Int.reduceSub, Int.reduceMul, beq_self_eq_true, Nat.zero_add, gt_of r0, gt_of r4, gt_of r5, gt_of r6, gt_of r7, gt_of r8, gt_of r9, gt_of r10, gt_of r11, f33 d.bits d.data hW5 hi.pl (by omega) (fun _ => rfl)]
        have hwl := congrArg List.length hw
        rw [List.length_drop, List.length_append] at hwl
        refine RunsC.bind (f38 (total := xs ++ u) (by omega) e hW5 hlt d hw hok rfl (by rw [← hal] at ht; simp only [List.length_append] at ht ⊢; omega) hws) ?_
        rintro v' h2 ⟨p', q1, q2, d2⟩
        simp -dsimp (disch := omega) only [go_sem, ↓reduceIte, Nat.reduceAdd, Nat.reduceSub, Nat.reduceMul, Nat.reduceLeDiff, Nat.reduceLT, Nat.reduceEqDiff, Nat.reduceBEq, Int.reduceEq, Int.reduceLT, Int.reduceLE, Int.reduceNeg, Int.reduceAdd, Int.reduceSub, Int.reduceMul, beq_self_eq_true, Nat.zero_add, gt_of r0, gt_of r4, gt_of r5, gt_of r6, gt_of r7, gt_of r8, gt_of r9, gt_of r10, gt_of r11]
        have hwl2 := congrArg List.length q2
        rw [List.length_drop] at hwl2
        obtain ⟨b, tl, gg⟩ : ∃ b tl, go6 0 0 (sext u) = b :: tl := by
          have hs0 : sext u ≠ [] := by simp [sext]
          cases hsx : sext u with
          | nil => exact absurd hsx hs0
          | cons x l =>
            have hx : x < 64 ∧ ∀ y ∈ l, y < 64 := by
              have : ∀ y ∈ sext u, y < 64 := fun y hy => by
                unfold sext at hy; simp at hy; omega
              rw [hsx] at this
              exact ⟨this x (by simp), fun y hy => this y (by simp [hy])⟩
            rw [go6, if_neg (by omega)]
            obtain ⟨b, t, h1, _⟩ := go6_top l (0 * 64 + x) (0 + 6) (by omega) (by simp; omega) hx.2
            exact ⟨b, t, h1⟩
        rw [gg, List.length_cons] at hwl
        have ep : p' = p + (go6 0 0 (sext u)).length := by rw [gg, List.length_cons]; omega
        rw [← ep] at hk
        exact RunsC.again (W.length - p') (by omega) ⟨1, p', v', v2, k2, xs ++ u, t', by omega, hi.step d2 (.inr (.inl ⟨rfl, by rw [q2]; exact hk⟩)) (by rw [List.append_assoc]; exact hal) q1 (by omega) (by (try simp only [get_put, ↓reduceIte, Nat.reduceEqDiff]) <;> first | assumption | rfl) (by (try simp only [get_put, ↓reduceIte, Nat.reduceEqDiff]) <;> first | assumption | rfl) (by (try simp only [get_put, ↓reduceIte, Nat.reduceEqDiff]) <;> first | assumption | rfl) (by (try simp only [get_put, ↓reduceIte, Nat.reduceEqDiff]) <;> first | assumption | rfl) (by (try simp only [get_put, ↓reduceIte, Nat.reduceEqDiff]) <;> first | assumption | rfl) (by (try simp only [get_put, ↓reduceIte, Nat.reduceEqDiff]) <;> first | assumption | rfl) (by (try simp only [get_put, ↓reduceIte, Nat.reduceEqDiff]) <;> first | assumption | rfl) (by (try simp only [get_put, ↓reduceIte, Nat.reduceEqDiff]) <;> first | assumption | rfl) (by (try simp only [get_put, ↓reduceIte, Nat.reduceEqDiff]) <;> first | assumption | rfl)⟩
      · subst et
        have hws := hk.len
        simp -dsimp (disch := omega) only [go_sem, ↓reduceIte, Nat.reduceAdd, Nat.reduceSub, Nat.reduceMul, Nat.reduceLeDiff, Nat.reduceLT, Nat.reduceEqDiff, Nat.reduceBEq, Int.reduceEq, Int.reduceLT, Int.reduceLE, Int.reduceNeg, Int.reduceAdd, Int.reduceSub, Int.reduceMul, beq_self_eq_true, Nat.zero_add, gt_of r0, gt_of r4, gt_of r5, gt_of r6, gt_of r7, gt_of r8, gt_of r9, gt_of r10, gt_of r11, f33 d.bits d.data hW5 hi.pl (by omega) (fun _ => rfl)]
        have hseg : ∀ j, Owns v2 j → j ≠ bs ∧ ¬ Owns v j ∧ ¬ Owns data j := fun j hj => ⟨by have := hi.ov2 j hj; omega, fun ho => hi.dis j ho hj, fun ho => by have := hi.ov2 j hj; have := hdl j ho; omega⟩
        have hk2 := hi.k2p
        have hpl := hi.pl
        have hlt5 := hi.lt
        refine RunsC.bind (f39 (by omega) e hW5 hlt d hi.segs hseg (by omega) hw hu20 hu0 hu128 hxl hws) ?_
        rintro _ h2 ⟨p', v', v2', k', rfl, q1, q2, q3, c1, c2, c3, c4, c5, c6, c7, c8, c9, c10⟩
        simp -dsimp (disch := omega) only [go_sem, ↓reduceIte, Nat.reduceAdd, Nat.reduceSub, Nat.reduceMul, Nat.reduceLeDiff, Nat.reduceLT, Nat.reduceEqDiff, Nat.reduceBEq, Int.reduceEq, Int.reduceLT, Int.reduceLE, Int.reduceNeg, Int.reduceAdd, Int.reduceSub, Int.reduceMul, beq_self_eq_true, Nat.zero_add, gt_of r0, gt_of r4, gt_of r5, gt_of r6, gt_of r7, gt_of r8, gt_of r9, gt_of r10, gt_of r11]
        have hrl : 1 ≤ (rz (p + 1) (hdr u.length ++ u)).length := by rw [rz_len, List.length_append]; unfold hdr; split <;> simp <;> omega
        rw [← q2] at hk
        refine RunsC.again (W.length - p') (by omega) ⟨1, p', v', v2', k', xs ++ u, t', by omega, ⟨(by (try simp only [get_put, ↓reduceIte, Nat.reduceEqDiff]) <;> first | assumption | rfl), (by (try simp only [get_put, ↓reduceIte, Nat.reduceEqDiff]) <;> first | assumption | rfl), (by (try simp only [get_put, ↓reduceIte, Nat.reduceEqDiff]) <;> first | assumption | rfl), (by (try simp only [get_put, ↓reduceIte, Nat.reduceEqDiff]) <;> first | assumption | rfl), (by (try simp only [get_put, ↓reduceIte, Nat.reduceEqDiff]) <;> first | assumption | rfl), (by (try simp only [get_put, ↓reduceIte, Nat.reduceEqDiff]) <;> first | assumption | rfl), (by (try simp only [get_put, ↓reduceIte, Nat.reduceEqDiff]) <;> first | assumption | rfl), (by (try simp only [get_put, ↓reduceIte, Nat.reduceEqDiff]) <;> first | assumption | rfl), (by (try simp only [get_put, ↓reduceIte, Nat.reduceEqDiff]) <;> first | assumption | rfl), c1, c2, c3, c4, ?_, by omega, ?_, ?_, c10, .inr (.inl ⟨rfl, by rw [q1]; exact hk⟩), by rw [List.append_assoc]; exact hal, q3, by omega, ?_⟩⟩
        · rw [c7 (bs + 4) (by omega) (by omega) (fun ho => by have := hi.ov _ ho; omega) (fun ho => by have := hi.ov2 _ ho; omega)]
          exact hi.map
        · intro j hj
          rcases c8 j hj with h | h
          · exact hi.ov j h
          · omega
        · intro j hj
          rcases c9 j hj with h | h
          · exact hi.ov2 j h
          · omega
        · intro j hj
          rw [c7 j (by omega) (by omega) (fun ho => by have := hi.ov _ ho; omega) (fun ho => by have := hi.ov2 _ ho; omega)]
          exact hi.same j hj
      · subst et
        have hws := hk.len
        rcases hmode with rfl | rfl | rfl
        · simp -dsimp (disch := omega) only [go_sem, ↓reduceIte, Nat.reduceAdd, Nat.reduceSub, Nat.reduceMul, Nat.reduceLeDiff, Nat.reduceLT, Nat.reduceEqDiff, Nat.reduceBEq, Int.reduceEq, Int.reduceLT, Int.reduceLE, Int.reduceNeg, Int.reduceAdd, Int.reduceSub, Int.reduceMul, beq_self_eq_true, Nat.zero_add, gt_of r0, gt_of r4, gt_of r5, gt_of r6, gt_of r7, gt_of r8, gt_of r9, gt_of r10, gt_of r11, f33 d.bits d.data hW5 hi.pl (by omega) (fun _ => rfl)]
          refine RunsC.bind (f35 (total := xs ++ u) (t1 := []) (by omega) e hW5 hlt d hw hT hl3 rfl (by rw [← hal] at ht; simp only [List.length_append] at ht ⊢; omega) hws) ?_
          rintro _ h2 ⟨p', v', rfl, q2, q3, d2⟩
          simp -dsimp (disch := omega) only [go_sem, ↓reduceIte, Nat.reduceAdd, Nat.reduceSub, Nat.reduceMul, Nat.reduceLeDiff, Nat.reduceLT, Nat.reduceEqDiff, Nat.reduceBEq, Int.reduceEq, Int.reduceLT, Int.reduceLE, Int.reduceNeg, Int.reduceAdd, Int.reduceSub, Int.reduceMul, beq_self_eq_true, Nat.zero_add, gt_of r0, gt_of r4, gt_of r5, gt_of r6, gt_of r7, gt_of r8, gt_of r9, gt_of r10, gt_of r11]
          have hwl := congrArg List.length hw
          rw [List.length_drop, List.length_append, List.length_cons] at hwl
          rw [← q3] at hk
          exact RunsC.again (W.length - p') (by omega) ⟨1, p', v', v2, k2, xs ++ u, t', by omega, hi.step d2 (.inr (.inl ⟨rfl, by rw [q2]; exact hk⟩)) (by rw [List.append_assoc]; exact hal) (by omega) (by omega) (by (try simp only [get_put, ↓reduceIte, Nat.reduceEqDiff]) <;> first | assumption | rfl) (by (try simp only [get_put, ↓reduceIte, Nat.reduceEqDiff]) <;> first | assumption | rfl) (by (try simp only [get_put, ↓reduceIte, Nat.reduceEqDiff]) <;> first | assumption | rfl) (by (try simp only [get_put, ↓reduceIte, Nat.reduceEqDiff]) <;> first | assumption | rfl) (by (try simp only [get_put, ↓reduceIte, Nat.reduceEqDiff]) <;> first | assumption | rfl) (by (try simp only [get_put, ↓reduceIte, Nat.reduceEqDiff]) <;> first | assumption | rfl) (by (try simp only [get_put, ↓reduceIte, Nat.reduceEqDiff]) <;> first | assumption | rfl) (by (try simp only [get_put, ↓reduceIte, Nat.reduceEqDiff]) <;> first | assumption | rfl) (by (try simp only [get_put, ↓reduceIte, Nat.reduceEqDiff]) <;> first | assumption | rfl)⟩
        · simp -dsimp (disch := omega) only [go_sem, ↓reduceIte, Nat.reduceAdd, Nat.reduceSub, Nat.reduceMul, Nat.reduceLeDiff, Nat.reduceLT, Nat.reduceEqDiff, Nat.reduceBEq, Int.reduceEq, Int.reduceLT, Int.reduceLE, Int.reduceNeg, Int.reduceAdd, Int.reduceSub, Int.reduceMul, beq_self_eq_true, Nat.zero_add, gt_of r0, gt_of r4, gt_of r5, gt_of r6, gt_of r7, gt_of r8, gt_of r9, gt_of r10, gt_of r11, f33 d.bits d.data hW5 hi.pl (by omega) (fun _ => rfl)]
          refine RunsC.bind (f36 (total := xs ++ u) (t1 := []) (by omega) e hW5 hlt d hw hT hl3 rfl (by rw [← hal] at ht; simp only [List.length_append] at ht ⊢; omega) hws) ?_
          rintro _ h2 ⟨p', v', rfl, q2, q3, d2⟩
          simp -dsimp (disch := omega) only [go_sem, ↓reduceIte, Nat.reduceAdd, Nat.reduceSub, Nat.reduceMul, Nat.reduceLeDiff, Nat.reduceLT, Nat.reduceEqDiff, Nat.reduceBEq, Int.reduceEq, Int.reduceLT, Int.reduceLE, Int.reduceNeg, Int.reduceAdd, Int.reduceSub, Int.reduceMul, beq_self_eq_true, Nat.zero_add, gt_of r0, gt_of r4, gt_of r5, gt_of r6, gt_of r7, gt_of r8, gt_of r9, gt_of r10, gt_of r11]
          have hwl := congrArg List.length hw
          rw [List.length_drop, List.length_append, List.length_cons] at hwl
          rw [← q3] at hk
          exact RunsC.again (W.length - p') (by omega) ⟨1, p', v', v2, k2, xs ++ u, t', by omega, hi.step d2 (.inr (.inl ⟨rfl, by rw [q2]; exact hk⟩)) (by rw [List.append_assoc]; exact hal) (by omega) (by omega) (by (try simp only [get_put, ↓reduceIte, Nat.reduceEqDiff]) <;> first | assumption | rfl) (by (try simp only [get_put, ↓reduceIte, Nat.reduceEqDiff]) <;> first | assumption | rfl) (by (try simp only [get_put, ↓reduceIte, Nat.reduceEqDiff]) <;> first | assumption | rfl) (by (try simp only [get_put, ↓reduceIte, Nat.reduceEqDiff]) <;> first | assumption | rfl) (by (try simp only [get_put, ↓reduceIte, Nat.reduceEqDiff]) <;> first | assumption | rfl) (by (try simp only [get_put, ↓reduceIte, Nat.reduceEqDiff]) <;> first | assumption | rfl) (by (try simp only [get_put, ↓reduceIte, Nat.reduceEqDiff]) <;> first | assumption | rfl) (by (try simp only [get_put, ↓reduceIte, Nat.reduceEqDiff]) <;> first | assumption | rfl) (by (try simp only [get_put, ↓reduceIte, Nat.reduceEqDiff]) <;> first | assumption | rfl)⟩
        · simp -dsimp (disch := omega) only [go_sem, ↓reduceIte, Nat.reduceAdd, Nat.reduceSub, Nat.reduceMul, Nat.reduceLeDiff, Nat.reduceLT, Nat.reduceEqDiff, Nat.reduceBEq, Int.reduceEq, Int.reduceLT, Int.reduceLE, Int.reduceNeg, Int.reduceAdd, Int.reduceSub, Int.reduceMul, beq_self_eq_true, Nat.zero_add, gt_of r0, gt_of r4, gt_of r5, gt_of r6, gt_of r7, gt_of r8, gt_of r9, gt_of r10, gt_of r11, f33 d.bits d.data hW5 hi.pl (by omega) (fun _ => rfl)]
          refine RunsC.bind (f37 (total := xs ++ u) (t1 := []) (by omega) e hW5 hlt d hw hT hl3 rfl (by rw [← hal] at ht; simp only [List.length_append] at ht ⊢; omega) hws) ?_
          rintro _ h2 ⟨p', v', rfl, q2, q3, d2⟩
          simp -dsimp (disch := omega) only [go_sem, ↓reduceIte, Nat.reduceAdd, Nat.reduceSub, Nat.reduceMul, Nat.reduceLeDiff, Nat.reduceLT, Nat.reduceEqDiff, Nat.reduceBEq, Int.reduceEq, Int.reduceLT, Int.reduceLE, Int.reduceNeg, Int.reduceAdd, Int.reduceSub, Int.reduceMul, beq_self_eq_true, Nat.zero_add, gt_of r0, gt_of r4, gt_of r5, gt_of r6, gt_of r7, gt_of r8, gt_of r9, gt_of r10, gt_of r11]
          have hwl := congrArg List.length hw
          rw [List.length_drop, List.length_append, List.length_cons] at hwl
          rw [← q3] at hk
          exact RunsC.again (W.length - p') (by omega) ⟨1, p', v', v2, k2, xs ++ u, t', by omega, hi.step d2 (.inr (.inl ⟨rfl, by rw [q2]; exact hk⟩)) (by rw [List.append_assoc]; exact hal) (by omega) (by omega) (by (try simp only [get_put, ↓reduceIte, Nat.reduceEqDiff]) <;> first | assumption | rfl) (by (try simp only [get_put, ↓reduceIte, Nat.reduceEqDiff]) <;> first | assumption | rfl) (by (try simp only [get_put, ↓reduceIte, Nat.reduceEqDiff]) <;> first | assumption | rfl) (by (try simp only [get_put, ↓reduceIte, Nat.reduceEqDiff]) <;> first | assumption | rfl) (by (try simp only [get_put, ↓reduceIte, Nat.reduceEqDiff]) <;> first | assumption | rfl) (by (try simp only [get_put, ↓reduceIte, Nat.reduceEqDiff]) <;> first | assumption | rfl) (by (try simp only [get_put, ↓reduceIte, Nat.reduceEqDiff]) <;> first | assumption | rfl) (by (try simp only [get_put, ↓reduceIte, Nat.reduceEqDiff]) <;> first | assumption | rfl) (by (try simp only [get_put, ↓reduceIte, Nat.reduceEqDiff]) <;> first | assumption | rfl)⟩
  · refine b1.keep ?_
    show T.get (T.put (T.put (T.put (T.put ob (bs + 1) _) (bs + 1 + 1) _) (bs + 1 + 1 + 1) _) (bs + 1 + 1 + 1 + 1) _) bs = _
    simp only [get_put]
    repeat rw [if_neg (by omega)]
  · refine hd1.keep (by show bs + 1 ≤ bs + 1 + 1 + 1 + 1 + 1; omega) fun j hj => ?_
    have := hdl j hj
    show T.get (T.put (T.put (T.put (T.put ob (bs + 1) _) (bs + 1 + 1) _) (bs + 1 + 1 + 1) _) (bs + 1 + 1 + 1 + 1) _) j = _
    simp only [get_put]
    repeat rw [if_neg (by omega)]
  · refine .sl (bs + 1) 100 (T.full (some (.i .u8 0)) depthC) [] (by show bs + 1 < bs + 1 + 1 + 1 + 1 + 1; omega) ?_ (Has.nil _ _) (by simp)
    show T.get (T.put (T.put (T.put (T.put ob (bs + 1) _) (bs + 1 + 1) _) (bs + 1 + 1 + 1) _) (bs + 1 + 1 + 1 + 1) _) (bs + 1) = _
    simp only [get_put]
    rw [if_neg (by omega), if_neg (by omega), if_neg (by omega), if_pos trivial]
  · refine .sl (bs + 3) 0 1 (T.full (some .ns) depthC) (by show bs + 3 < bs + 1 + 1 + 1 + 1 + 1; omega) ?_ (by omega)
    show T.get (T.put (T.put (T.put (T.put ob (bs + 1) _) (bs + 1 + 1) _) (bs + 1 + 1 + 1) _) (bs + 1 + 1 + 1 + 1) _) (bs + 1 + 1 + 1) = _
    simp only [get_put]
    rw [if_neg (by omega), if_pos trivial]
  · show T.get (T.put (T.put (T.put (T.put ob (bs + 1) _) (bs + 1 + 1) _) (bs + 1 + 1 + 1) _) (bs + 1 + 1 + 1 + 1) _) (bs + 1 + 1 + 1 + 1) = _
    simp only [get_put, if_true]
  · show bs + 5 ≤ bs + 1 + 1 + 1 + 1 + 1
    omega
  · intro j hj; cases hj; omega
  · intro j hj; cases hj; omega
  · intro j h1 h2; cases h1; have : bs + 3 = bs + 1 := h2; omega
  · intro j hj
    show T.get (T.put (T.put (T.put (T.put ob (bs + 1) _) (bs + 1 + 1) _) (bs + 1 + 1 + 1) _) (bs + 1 + 1 + 1 + 1) _) j = _
    simp only [get_put]
    rw [if_neg (by omega), if_neg (by omega), if_neg (by omega), if_neg (by omega)]
    exact b2.get j hj
  · rintro _ rg h' ⟨rfl, p, v, v2, k2, hi⟩
    have r0 := hi.r0; have r4 := hi.r4; have r5 := hi.r5; have r6 := hi.r6; have r7 := hi.r7; have r8 := hi.r8; have r9 := hi.r9; have r10 := hi.r10; have r11 := hi.r11
    have hW5 : W.length < 5000 := by omega
    have hcs : cs (strOf total ⟨#[]⟩) = total := by rw [cs_strOf total _ htl]; rfl
    have hlt5 := hi.lt
    simp -dsimp (disch := omega) only [go_sem, ↓reduceIte, Nat.reduceAdd, Nat.reduceSub, Nat.reduceMul, Nat.reduceLeDiff, Nat.reduceLT, Nat.reduceEqDiff, Nat.reduceBEq, Int.reduceEq, Int.reduceLT, Int.reduceLE, Int.reduceNeg, Int.reduceAdd, Int.reduceSub, Int.reduceMul, beq_self_eq_true, Nat.zero_add, gt_of r0, gt_of r4, gt_of r5, gt_of r6, gt_of r7, gt_of r8, gt_of r9, gt_of r10, gt_of r11, hi.segs.ln]
    refine Runs.joind (fun e rg h2 => e = .normal ∧ h2 = h' ∧ ∃ sg, scalar sg = true ∧ T.get rg 0 = some data ∧ T.get rg 5 = some v ∧ T.get rg 7 = some sg ∧ T.get rg 9 = some (.m (bs + 4)) ∧ T.get rg 11 = some (.b false)) ?_ ?_ ?_
    · intro c1
      simp -dsimp (disch := omega) only [go_sem, ↓reduceIte, Nat.reduceAdd, Nat.reduceSub, Nat.reduceMul, Nat.reduceLeDiff, Nat.reduceLT, Nat.reduceEqDiff, Nat.reduceBEq, Int.reduceEq, Int.reduceLT, Int.reduceLE, Int.reduceNeg, Int.reduceAdd, Int.reduceSub, Int.reduceMul, beq_self_eq_true, Nat.zero_add, gt_of r0, gt_of r4, gt_of r5, gt_of r6, gt_of r7, gt_of r8, gt_of r9, gt_of r10, gt_of r11]
      exact RunsC.ret ⟨rfl, rfl, .ns, rfl, (by (try simp only [get_put, ↓reduceIte, Nat.reduceEqDiff]) <;> first | assumption | rfl), (by (try simp only [get_put, ↓reduceIte, Nat.reduceEqDiff]) <;> first | assumption | rfl), (by (try simp only [get_put, ↓reduceIte, Nat.reduceEqDiff]) <;> first | assumption | rfl), (by (try simp only [get_put, ↓reduceIte, Nat.reduceEqDiff]) <;> first | assumption | rfl), (by (try simp only [get_put, ↓reduceIte, Nat.reduceEqDiff]) <;> first | assumption | rfl)⟩
    · intro c1
      simp -dsimp (disch := omega) only [go_sem, ↓reduceIte, Nat.reduceAdd, Nat.reduceSub, Nat.reduceMul, Nat.reduceLeDiff, Nat.reduceLT, Nat.reduceEqDiff, Nat.reduceBEq, Int.reduceEq, Int.reduceLT, Int.reduceLE, Int.reduceNeg, Int.reduceAdd, Int.reduceSub, Int.reduceMul, beq_self_eq_true, Nat.zero_add, gt_of r0, gt_of r4, gt_of r5, gt_of r6, gt_of r7, gt_of r8, gt_of r9, gt_of r10, gt_of r11]
      exact RunsC.ret ⟨rfl, rfl, v2, hi.segs.sc, (by (try simp only [get_put, ↓reduceIte, Nat.reduceEqDiff]) <;> first | assumption | rfl), (by (try simp only [get_put, ↓reduceIte, Nat.reduceEqDiff]) <;> first | assumption | rfl), (by (try simp only [get_put, ↓reduceIte, Nat.reduceEqDiff]) <;> first | assumption | rfl), (by (try simp only [get_put, ↓reduceIte, Nat.reduceEqDiff]) <;> first | assumption | rfl), (by (try simp only [get_put, ↓reduceIte, Nat.reduceEqDiff]) <;> first | assumption | rfl)⟩
    · rintro _ rg h2 ⟨rfl, rfl, sg, hsg, r0, r5, r7, r9, r11⟩
      simp -dsimp (disch := omega) only [go_sem, ↓reduceIte, Nat.reduceAdd, Nat.reduceSub, Nat.reduceMul, Nat.reduceLeDiff, Nat.reduceLT, Nat.reduceEqDiff, Nat.reduceBEq, Int.reduceEq, Int.reduceLT, Int.reduceLE, Int.reduceNeg, Int.reduceAdd, Int.reduceSub, Int.reduceMul, beq_self_eq_true, Nat.zero_add, gt_of r0, gt_of r5, gt_of r7, gt_of r9, gt_of r11, f41 hi.map, hi.out.bs ht0]
      refine Runs.bind (f42 (by omega) hi.data hW5 hsg) ?_
      rintro u h3 ⟨g1, g2⟩
      simp -dsimp (disch := omega) only [go_sem, ↓reduceIte, Nat.reduceAdd, Nat.reduceSub, Nat.reduceMul, Nat.reduceLeDiff, Nat.reduceLT, Nat.reduceEqDiff, Nat.reduceBEq, Int.reduceEq, Int.reduceLT, Int.reduceLE, Int.reduceNeg, Int.reduceAdd, Int.reduceSub, Int.reduceMul, beq_self_eq_true, Nat.zero_add]
      refine Runs.ret ⟨u, _, rfl, g1, hcs, ⟨?_, fun j hj => ?_⟩⟩
      · have := g2.next; rw [hbs]; omega
      · rw [g2.get j (by omega)]
        exact hi.same j hj
end Go.Proofs.YtcnallabiffemaaGreatDoor.Vm
