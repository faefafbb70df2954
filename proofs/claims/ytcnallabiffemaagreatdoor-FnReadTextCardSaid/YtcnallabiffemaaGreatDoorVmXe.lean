/- Numbers of six bits, packed into codewords. Conditions: none. -/
import Derived.Test.YtcnallabiffemaaGreatDoorVmXd
set_option linter.unusedSimpArgs false
set_option linter.unusedVariables false
namespace Go.Proofs.YtcnallabiffemaaGreatDoor.Vm
open Go
theorem and63 (y : Int) : IntKind.i64.wrap (((BitVec.ofInt IntKind.i64.bits y &&& BitVec.ofInt IntKind.i64.bits 63).toNat : Nat) : Int) = y % 64 := by
  show IntKind.i64.wrap (((BitVec.ofInt 64 y &&& BitVec.ofInt 64 63).toNat : Nat) : Int) = _
  rw [BitVec.toNat_and, BitVec.toNat_ofInt, show (BitVec.ofInt 64 63).toNat = 2 ^ 6 - 1 from rfl, Nat.and_two_pow_sub_one_eq_mod]
  rw [wrap_i] <;> omega
theorem and255 (y : Int) : IntKind.i64.wrap (((BitVec.ofInt IntKind.i64.bits y &&& BitVec.ofInt IntKind.i64.bits 255).toNat : Nat) : Int) = y % 256 := by
  show IntKind.i64.wrap (((BitVec.ofInt 64 y &&& BitVec.ofInt 64 255).toNat : Nat) : Int) = _
  rw [BitVec.toNat_and, BitVec.toNat_ofInt, show (BitVec.ofInt 64 255).toNat = 2 ^ 8 - 1 from rfl, Nat.and_two_pow_sub_one_eq_mod]
  rw [wrap_i] <;> omega
theorem wrap_mod (y : Int) : ∃ q, IntKind.i64.wrap y = y + q * 18446744073709551616 := by
  rw [IntKind.wrap_i64]
  exact ⟨-((y + 9223372036854775808) / 18446744073709551616), by omega⟩
theorem or6 (b : Int) (x : Nat) (hx : x < 64) : ∃ B q : Int, IntKind.i64.wrap (((BitVec.ofInt IntKind.i64.bits (IntKind.i64.wrap (b * 2 ^ min (Int.toNat 6) 64)) ||| BitVec.ofInt IntKind.i64.bits (x : Int)).toNat : Nat) : Int) = B ∧ B = b * 64 + x + q * 18446744073709551616 := by
  obtain ⟨q1, e1⟩ := wrap_mod (b * 2 ^ min (Int.toNat 6) 64)
  have e2 : (b * 2 ^ min (Int.toNat 6) 64 : Int) = b * 64 := rfl
  rw [e1, e2]
  have key : (((BitVec.ofInt IntKind.i64.bits (b * 64 + q1 * 18446744073709551616) ||| BitVec.ofInt IntKind.i64.bits (x : Int)).toNat : Nat) : Int) = (b * 64) % 18446744073709551616 + x := by
    show (((BitVec.ofInt 64 (b * 64 + q1 * 18446744073709551616) ||| BitVec.ofInt 64 (x : Int)).toNat : Nat) : Int) = _
    rw [BitVec.toNat_or, BitVec.toNat_ofInt, BitVec.toNat_ofInt]
    have e3 : ((b * 64 + q1 * 18446744073709551616) % ((2 ^ 64 : Nat) : Int)).toNat = ((b % 288230376151711744).toNat) <<< 6 := by
      rw [Nat.shiftLeft_eq]
      omega
    have e4 : ((x : Int) % ((2 ^ 64 : Nat) : Int)).toNat = x := by omega
    rw [e3, e4, ← Nat.shiftLeft_add_eq_or_of_lt (i := 6) (by omega), Nat.shiftLeft_eq]
    omega
  rw [key]
  obtain ⟨q2, e5⟩ := wrap_mod ((b * 64) % 18446744073709551616 + x)
  exact ⟨_, q2 - (b * 64) / 18446744073709551616, rfl, by rw [e5]; omega⟩
theorem and63n (a : Nat) : IntKind.i64.wrap (((BitVec.ofInt IntKind.i64.bits (a : Int) &&& BitVec.ofInt IntKind.i64.bits 63).toNat : Nat) : Int) = ((a % 64 : Nat) : Int) := by
  rw [and63]; omega
/-- The low bits of a number. -/
def Mod (B : Int) (c acc : Nat) : Prop := B % ((2 ^ c : Nat) : Int) = (acc : Int)
theorem emit (B : Int) (acc c : Nat) (h1 : 8 ≤ c) (h2 : c < 14) (hm : Mod B c acc) : B.fdiv (2 ^ min (Int.toNat ((c - 8 : Nat) : Int)) 64) % 256 = ((acc / 2 ^ (c - 8) : Nat) : Int) := by
  have : c = 8 ∨ c = 9 ∨ c = 10 ∨ c = 11 ∨ c = 12 ∨ c = 13 := by omega
  rcases this with rfl | rfl | rfl | rfl | rfl | rfl
  · show B.fdiv 1 % 256 = ((acc / 1 : Nat) : Int)
    rw [Int.fdiv_eq_ediv_of_nonneg _ (by decide)]
    simp [Mod] at hm ⊢
    omega
  · show B.fdiv 2 % 256 = ((acc / 2 : Nat) : Int)
    rw [Int.fdiv_eq_ediv_of_nonneg _ (by decide)]
    simp [Mod] at hm ⊢
    omega
  · show B.fdiv 4 % 256 = ((acc / 4 : Nat) : Int)
    rw [Int.fdiv_eq_ediv_of_nonneg _ (by decide)]
    simp [Mod] at hm ⊢
    omega
  · show B.fdiv 8 % 256 = ((acc / 8 : Nat) : Int)
    rw [Int.fdiv_eq_ediv_of_nonneg _ (by decide)]
    simp [Mod] at hm ⊢
    omega
  · show B.fdiv 16 % 256 = ((acc / 16 : Nat) : Int)
    rw [Int.fdiv_eq_ediv_of_nonneg _ (by decide)]
    simp [Mod] at hm ⊢
    omega
  · show B.fdiv 32 % 256 = ((acc / 32 : Nat) : Int)
    rw [Int.fdiv_eq_ediv_of_nonneg _ (by decide)]
    simp [Mod] at hm ⊢
    omega
theorem left (B : Int) (acc c : Nat) (h1 : c ≤ 8) (hm : Mod B c acc) : IntKind.i64.wrap (B * 2 ^ min (Int.toNat (8 - (c : Int))) 64) % 256 = ((acc * 2 ^ (8 - c) % 256 : Nat) : Int) := by
  obtain ⟨q, e⟩ := wrap_mod (B * 2 ^ min (Int.toNat (8 - (c : Int))) 64)
  rw [e]
  have : c = 0 ∨ c = 1 ∨ c = 2 ∨ c = 3 ∨ c = 4 ∨ c = 5 ∨ c = 6 ∨ c = 7 ∨ c = 8 := by omega
  rcases this with rfl | rfl | rfl | rfl | rfl | rfl | rfl | rfl | rfl
  · show (B * 256 + q * 18446744073709551616) % 256 = ((acc * 256 % 256 : Nat) : Int)
    simp [Mod] at hm ⊢
    omega
  · show (B * 128 + q * 18446744073709551616) % 256 = ((acc * 128 % 256 : Nat) : Int)
    simp [Mod] at hm ⊢
    omega
  · show (B * 64 + q * 18446744073709551616) % 256 = ((acc * 64 % 256 : Nat) : Int)
    simp [Mod] at hm ⊢
    omega
  · show (B * 32 + q * 18446744073709551616) % 256 = ((acc * 32 % 256 : Nat) : Int)
    simp [Mod] at hm ⊢
    omega
  · show (B * 16 + q * 18446744073709551616) % 256 = ((acc * 16 % 256 : Nat) : Int)
    simp [Mod] at hm ⊢
    omega
  · show (B * 8 + q * 18446744073709551616) % 256 = ((acc * 8 % 256 : Nat) : Int)
    simp [Mod] at hm ⊢
    omega
  · show (B * 4 + q * 18446744073709551616) % 256 = ((acc * 4 % 256 : Nat) : Int)
    simp [Mod] at hm ⊢
    omega
  · show (B * 2 + q * 18446744073709551616) % 256 = ((acc * 2 % 256 : Nat) : Int)
    simp [Mod] at hm ⊢
    omega
  · show (B * 1 + q * 18446744073709551616) % 256 = ((acc * 1 % 256 : Nat) : Int)
    simp [Mod] at hm ⊢
    omega
theorem grow (B q b : Int) (acc x c : Nat) (hc : c = 0 ∨ c = 2 ∨ c = 4 ∨ c = 6) (hx : x < 64) (hm : Mod b c acc) (e : B = b * 64 + x + q * 18446744073709551616) : Mod B (c + 6) (acc * 64 + x) := by
  rcases hc with rfl | rfl | rfl | rfl <;> simp [Mod] at hm ⊢ <;> omega
theorem shrink (B : Int) (acc c : Nat) (h1 : 8 ≤ c) (h2 : c < 14) (hm : Mod B c acc) : Mod B (c - 8) (acc % 2 ^ (c - 8)) := by
  have : c = 8 ∨ c = 9 ∨ c = 10 ∨ c = 11 ∨ c = 12 ∨ c = 13 := by omega
  rcases this with rfl | rfl | rfl | rfl | rfl | rfl <;> simp [Mod] at hm ⊢ <;> omega
/-- Six bits each, packed: what is left of the last codeword, and how many bits it has. -/
def go6 : Nat → Nat → List Nat → List Nat
  | acc, cnt, [] => if 0 < cnt then [acc * 2 ^ (8 - cnt) % 256] else []
  | acc, cnt, x :: l => if 8 ≤ cnt + 6 then ((acc * 64 + x) / 2 ^ (cnt - 2)) :: go6 ((acc * 64 + x) % 2 ^ (cnt - 2)) (cnt - 2) l else go6 (acc * 64 + x) (cnt + 6) l
def goW (acc cnt : Nat) (l : List Nat) : List Nat := if 8 ≤ cnt then (acc / 2 ^ (cnt - 8)) :: go6 (acc % 2 ^ (cnt - 8)) (cnt - 8) l else go6 acc cnt l
theorem go6_c (acc cnt x : Nat) (l : List Nat) : go6 acc cnt (x :: l) = goW (acc * 64 + x) (cnt + 6) l := by
  rw [go6, goW]
  rfl
def sext (t : List Nat) : List Nat := t.map (· % 64) ++ [31]
def encE (t : List Nat) : List Nat := 240 :: go6 0 0 (sext t)
/-- How many characters EDIFACT has. -/
def okE (t : List Nat) : Prop := ∀ x ∈ t, 32 ≤ x ∧ x < 95
theorem take_getD (s : ByteArray) (n p : Nat) (h : p < n) (hn : n ≤ s.size) : (sext ((cs s).take n)).getD p 0 = bt s p % 64 := by
  unfold sext bt
  rw [List.getD_eq_getElem?_getD, List.getD_eq_getElem?_getD, List.getElem?_append_left (by simp [cs_len]; omega), List.getElem?_map, List.getElem?_take, if_pos h]
  have : p < (cs s).length := by rw [cs_len]; omega
  rw [List.getElem?_eq_getElem this]
  rfl
theorem take_getE (s : ByteArray) (n : Nat) (hn : n ≤ s.size) : (sext ((cs s).take n)).getD n 0 = 31 := by
  unfold sext
  rw [List.getD_eq_getElem?_getD, List.getElem?_append_right (by simp [cs_len]; omega)]
  simp [cs_len, Nat.min_eq_left hn]
theorem sext_len (s : ByteArray) (n : Nat) (hn : n ≤ s.size) : (sext ((cs s).take n)).length = n + 1 := by
  unfold sext
  simp [cs_len]
  omega
theorem sext_lt (t : List Nat) (p : Nat) : (sext t).getD p 0 < 64 := by
  rw [List.getD_eq_getElem?_getD]
  rcases hx : (sext t)[p]? with _ | x
  · decide
  · have hx := List.mem_of_getElem? hx
    unfold sext at hx
    simp at hx
    simp
    omega
end Go.Proofs.YtcnallabiffemaaGreatDoor.Vm
