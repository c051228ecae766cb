import Derived.Test.Qxb6605262aRows
import Derived.WalkKit
import Derived.Laws.Bits64
import Derived.Laws.Bits64b
import Derived.Laws.BitsLemmas
namespace Go.Proofs.Qxb6605262a
set_option linter.unusedVariables false

/-- The zig-zag number. -/
def zig (x : Int) : Nat := if 0 ≤ x then (2 * x).toNat else (-2 * x - 1).toNat

theorem zig_lt {x : Int} (h1 : -9223372036854775808 ≤ x) (h2 : x ≤ 9223372036854775807) : zig x < 18446744073709551616 := by
  unfold zig; split <;> omega

theorem wrap_nat (m : Nat) (h : m < 18446744073709551616) : IntKind.u64.wrap (m : Int) = (m : Int) := by rw [IntKind.wrap_u64]; omega

theorem xor_ones (a : Nat) (h : a < 18446744073709551616) : a ^^^ 18446744073709551615 = 18446744073709551615 - a := by
  have e : (BitVec.ofNat 64 a ^^^ BitVec.allOnes 64).toNat = (~~~ (BitVec.ofNat 64 a)).toNat := by rw [BitVec.xor_allOnes]
  rw [BitVec.toNat_xor, BitVec.toNat_not, BitVec.toNat_ofNat, BitVec.toNat_allOnes] at e
  simp only [Nat.reducePow] at e
  rw [Nat.mod_eq_of_lt h] at e
  omega

theorem zig_pos {x : Int} (h1 : 0 ≤ x) (h2 : x ≤ 9223372036854775807) : bits BinOp.xor IntKind.u64 (x * 2) (x / 9223372036854775808) = ((zig x : Nat) : Int) := by
  have e : x / 9223372036854775808 = 0 := by omega
  obtain ⟨m, rfl⟩ : ∃ m : Nat, x = (m : Int) := ⟨x.toNat, by omega⟩
  rw [e]
  have h := bits_xor_u64_nat (m * 2) 0 (by omega) (by omega)
  rw [Nat.xor_zero] at h
  have e2 : ((m * 2 : Nat) : Int) = (m : Int) * 2 := by omega
  rw [e2] at h
  have e3 : ((0 : Nat) : Int) = 0 := rfl
  rw [e3] at h
  rw [h]
  unfold zig
  rw [if_pos h1]
  omega

theorem zig_neg {x : Int} (h1 : x < 0) (h2 : -9223372036854775808 ≤ x) :
    bits BinOp.xor IntKind.u64 (IntKind.u64.wrap (IntKind.u64.wrap x * 2)) (IntKind.u64.wrap (x / 9223372036854775808)) = ((zig x : Nat) : Int) := by
  have e : x / 9223372036854775808 = -1 := by omega
  have e1 : IntKind.u64.wrap (-1) = ((18446744073709551615 : Nat) : Int) := by rw [IntKind.wrap_u64]; omega
  obtain ⟨m, hm⟩ : ∃ m : Nat, (m : Int) = 2 * x + 18446744073709551616 := ⟨(2 * x + 18446744073709551616).toNat, by omega⟩
  have e2 : IntKind.u64.wrap (IntKind.u64.wrap x * 2) = (m : Int) := by rw [IntKind.wrap_u64, IntKind.wrap_u64]; omega
  rw [e, e1, e2, bits_xor_u64_nat m 18446744073709551615 (by omega) (by omega), xor_ones m (by omega)]
  unfold zig
  rw [if_neg (by omega)]
  omega

theorem zig_even {x : Int} (h1 : -9223372036854775808 ≤ x) (h2 : x ≤ 9223372036854775807) (h : zig x % 2 = 0) : ((zig x : Nat) : Int) / 2 = x := by
  unfold zig at *
  split at h <;> split <;> omega
theorem zig_odd {x : Int} (h1 : -9223372036854775808 ≤ x) (h2 : x ≤ 9223372036854775807) (h : ¬ zig x % 2 = 0) : -(((zig x : Nat) : Int) / 2) - 1 = x := by
  unfold zig at *
  split at h <;> split <;> omega

theorem and_one (u : Nat) (h : u < 18446744073709551616) : bits BinOp.and IntKind.u64 (u : Int) 1 = ((u % 2 : Nat) : Int) := by
  have h1 := bits_and_u64_nat u 1 h (by omega)
  rw [Nat.and_one_is_mod] at h1
  exact h1

/-! ### The bytes -/

/-- What appendVarint9 appends for the number u, f bytes with a flag still to come. -/
def enc : Nat → Nat → List Nat
  | 0, u => [u % 256]
  | f + 1, u => if u < 128 then [u] else (u % 128 + 128) :: enc f (u / 128)

theorem enc_lt : ∀ (f u : Nat), ∀ b ∈ enc f u, b < 256
  | 0, u, b, h => by simp [enc] at h; omega
  | f + 1, u, b, h => by
    rw [enc] at h
    split at h
    · simp at h; omega
    · rcases List.mem_cons.1 h with h | h
      · omega
      · exact enc_lt f _ b h

theorem enc_len : ∀ (f u : Nat), 1 ≤ (enc f u).length ∧ (enc f u).length ≤ f + 1 ∧ ((enc f u).length ≤ f → u < 2 ^ (7 * (enc f u).length)) ∧ (2 ≤ (enc f u).length → 2 ^ (7 * ((enc f u).length - 1)) ≤ u)
  | 0, u => by simp [enc]
  | f + 1, u => by
    rw [enc]
    split
    · rename_i h
      refine ⟨by simp, by simp, fun _ => ?_, fun h2 => by simp at h2⟩
      simp only [List.length_cons, List.length_nil]
      omega
    · rename_i h
      obtain ⟨h1, h2, h3, h4⟩ := enc_len f (u / 128)
      obtain ⟨k, hk⟩ : ∃ k, (enc f (u / 128)).length = k := ⟨_, rfl⟩
      rw [hk] at h1 h2 h3 h4
      rw [List.length_cons, hk]
      have e : ∀ m : Nat, 2 ^ (7 * (m + 1)) = 128 * 2 ^ (7 * m) := fun m => by rw [Nat.mul_add, Nat.pow_add, Nat.mul_comm]
      refine ⟨by omega, by omega, fun h5 => ?_, fun h5 => ?_⟩
      · have := h3 (by omega)
        rw [e k]
        omega
      · by_cases hk1 : k = 1
        · subst hk1; simp; omega
        · have := h4 (by omega)
          rw [show k + 1 - 1 = (k - 1) + 1 by omega, e (k - 1)]
          omega

/-- The model of the length. -/
def lenM (k : Nat) : Nat := if (k + 6) / 7 = 0 then 1 else if 9 < (k + 6) / 7 then 9 else (k + 6) / 7

theorem pow_lt_iff {a b : Nat} : 2 ^ a < 2 ^ b ↔ a < b := Nat.pow_lt_pow_iff_right (by omega)

theorem len_enc {u k : Nat} (h1 : u < 2 ^ k) (h2 : k = 0 ∨ 2 ^ (k - 1) ≤ u) : lenM k = (enc 8 u).length := by
  obtain ⟨l1, l2, l3, l4⟩ := enc_len 8 u
  obtain ⟨n, hn⟩ : ∃ n, (enc 8 u).length = n := ⟨_, rfl⟩
  rw [hn] at l1 l2 l3 l4 ⊢
  have a1 : 2 ≤ n → 7 * (n - 1) < k := fun h => pow_lt_iff.1 (Nat.lt_of_le_of_lt (l4 h) h1)
  have a2 : n ≤ 8 → k ≤ 7 * n := fun h => by
    rcases h2 with h2 | h2
    · omega
    · have := pow_lt_iff.1 (Nat.lt_of_le_of_lt h2 (l3 h))
      omega
  unfold lenM
  by_cases hn9 : n = 9
  · have := a1 (by omega)
    split
    · omega
    · split <;> omega
  · have := a2 (by omega)
    by_cases hn1 : n = 1
    · split
      · omega
      · split <;> omega
    · have := a1 (by omega)
      split
      · omega
      · split <;> omega

/-! ### Reading them back -/

/-- At the i-th byte: what is left of the bytes and of the number. -/
def At (p : List Nat) (u L i : Nat) : Prop := ∃ rest, p.drop i = enc (8 - i) (u / 2 ^ (7 * i)) ++ rest ∧ L = i + (enc (8 - i) (u / 2 ^ (7 * i))).length

theorem at_start (u : Nat) (rest : List Nat) : At (enc 8 u ++ rest) u (enc 8 u).length 0 := ⟨rest, by simp, by simp⟩

theorem pow7 (i : Nat) : 2 ^ (7 * (i + 1)) = 2 ^ (7 * i) * 128 := by rw [Nat.mul_add, Nat.pow_add]

theorem getD_drop {p : List Nat} {i : Nat} {b : Nat} {t : List Nat} (h : p.drop i = b :: t) : p.getD i 0 = b ∧ i < p.length := by
  have h1 : (p.drop i)[0]? = some b := by rw [h]; rfl
  rw [List.getElem?_drop, Nat.add_zero] at h1
  refine ⟨by simp [List.getD, h1], ?_⟩
  exact (List.getElem?_eq_some_iff.1 h1).1

theorem at_last {p : List Nat} {u L i : Nat} (hi : i < 8) (h : At p u L i) (hv : u / 2 ^ (7 * i) < 128) : p.getD i 0 = u / 2 ^ (7 * i) ∧ i < p.length ∧ L = i + 1 := by
  obtain ⟨rest, h1, h2⟩ := h
  obtain ⟨f, hf⟩ : ∃ f, 8 - i = f + 1 := ⟨7 - i, by omega⟩
  rw [hf, enc, if_pos hv] at h1 h2
  obtain ⟨h3, h4⟩ := getD_drop h1
  exact ⟨h3, h4, by simpa using h2⟩

theorem at_more {p : List Nat} {u L i : Nat} (hi : i < 8) (h : At p u L i) (hv : ¬ u / 2 ^ (7 * i) < 128) : p.getD i 0 = u / 2 ^ (7 * i) % 128 + 128 ∧ i < p.length ∧ At p u L (i + 1) := by
  obtain ⟨rest, h1, h2⟩ := h
  obtain ⟨f, hf⟩ : ∃ f, 8 - i = f + 1 := ⟨7 - i, by omega⟩
  rw [hf, enc, if_neg hv] at h1 h2
  obtain ⟨h3, h4⟩ := getD_drop h1
  refine ⟨h3, h4, rest, ?_, ?_⟩
  · rw [show 8 - (i + 1) = f by omega, pow7, ← Nat.div_div_eq_div_mul]
    have : p.drop (i + 1) = (p.drop i).drop 1 := by rw [List.drop_drop]
    rw [this, h1]
    rfl
  · rw [show 8 - (i + 1) = f by omega, pow7, ← Nat.div_div_eq_div_mul]
    rw [List.length_cons] at h2
    omega

theorem at_end {p : List Nat} {u L : Nat} (h : At p u L 8) : p.getD 8 0 = u / 72057594037927936 % 256 ∧ 8 < p.length ∧ L = 9 := by
  obtain ⟨rest, h1, h2⟩ := h
  have e : 2 ^ (7 * 8) = 72057594037927936 := rfl
  rw [e] at h1 h2
  simp only [Nat.sub_self, enc] at h1 h2
  obtain ⟨h3, h4⟩ := getD_drop h1
  exact ⟨h3, h4, by simpa using h2⟩

theorem or_add {acc x s : Nat} (h : acc < 2 ^ s) : acc ||| x * 2 ^ s = acc + x * 2 ^ s := by
  have := Nat.shiftLeft_add_eq_or_of_lt h x
  rw [Nat.shiftLeft_eq] at this
  rw [Nat.or_comm, ← this, Nat.add_comm]

theorem split_last {u i : Nat} : u % 2 ^ (7 * i) + u / 2 ^ (7 * i) * 2 ^ (7 * i) = u := by
  have := Nat.mod_add_div u (2 ^ (7 * i))
  rw [Nat.mul_comm (2 ^ (7 * i))] at this
  exact this
theorem split_more {u i : Nat} : u % 2 ^ (7 * i) + u / 2 ^ (7 * i) % 128 * 2 ^ (7 * i) = u % 2 ^ (7 * (i + 1)) := by
  rw [pow7, Nat.mod_mul, Nat.mul_comm (u / 2 ^ (7 * i) % 128)]

theorem pow_small {i : Nat} (h : i < 8) : 2 ^ (7 * i) ≤ 562949953421312 := by
  have := Nat.pow_le_pow_right (n := 2) (by omega) (show 7 * i ≤ 49 by omega)
  omega

/-- 'u |= uint64(x) << (7*i)' on what has been read. -/
theorem or_shl {acc x i : Nat} (hi : i < 8) (hx : x < 128) (h : acc < 2 ^ (7 * i)) : bits BinOp.or IntKind.u64 (acc : Int) (IntKind.u64.wrap ((x : Int) * 2 ^ (7 * i))) = ((acc + x * 2 ^ (7 * i) : Nat) : Int) := by
  have hp := pow_small hi
  have e : (x : Int) * 2 ^ (7 * i) = ((x * 2 ^ (7 * i) : Nat) : Int) := by simp
  have hb : x * 2 ^ (7 * i) ≤ 127 * 2 ^ (7 * i) := Nat.mul_le_mul_right _ (by omega)
  rw [e, wrap_nat _ (by omega), bits_or_u64_nat _ _ (by omega) (by omega), or_add h]
end Go.Proofs.Qxb6605262a
