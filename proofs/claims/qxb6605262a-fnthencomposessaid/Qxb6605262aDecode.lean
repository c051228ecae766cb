import Derived.Test.Qxb6605262aVar
namespace Go.Proofs.Qxb6605262a
open Go.RowKit
set_option linter.unusedVariables false

/-- A slice of bytes that can be read. -/
structure SlB (w : World) (a : Option Addr) (n c : Nat) (p : List Nat) : Prop where
  len : p.length = n
  le : n ≤ c
  nil : a = none → n = 0 ∧ c = 0
  cells : n = 0 ∨ ∃ b off, a = some ⟨b, off, none⟩ ∧ ∀ i, i < n → w.cell? ⟨b, off + i, none⟩ = some (.int .u8 ((p.getD i 0 : Nat) : Int))

theorem SlB.later {w w' : World} {a : Option Addr} {n c : Nat} {p : List Nat} (h : SlB w a n c p) (hb : Below w.heap.size w w') : SlB w' a n c p := by
  refine ⟨h.len, h.le, h.nil, ?_⟩
  rcases h.cells with h0 | ⟨b, off, ha, hc⟩
  · exact .inl h0
  · exact .inr ⟨b, off, ha, fun i hi => cell_later hb (hc i hi)⟩

theorem and127 {c : Nat} (h : c < 256) : bits BinOp.and IntKind.u8 (c : Int) 127 = ((c % 128 : Nat) : Int) := by
  have := bits_mask .u8 8 (by decide) wraps_u8 7 (by decide) (c : Int) (by omega) (by omega)
  have e : (2 : Int) ^ 7 - 1 = 127 := by decide
  have e2 : (2 : Int) ^ 7 = 128 := by decide
  rw [e, e2] at this
  rw [this]; omega

theorem ret3 {a b c d : Int} {x : Bool} (h1 : a = b) (h2 : c = d) : Ending.returned (.tuple #[.int .u64 a, .int .i64 c, .bool x]) = .returned (.tuple #[.int .u64 b, .int .i64 d, .bool x]) := by rw [h1, h2]

theorem or_last {u acc v : Nat} (hu : u < 18446744073709551616) (h1 : acc = u % 2 ^ (7 * 8)) (h2 : v = u / 72057594037927936 % 256) : bits BinOp.or IntKind.u64 (acc : Int) ((v : Int) * 72057594037927936) = (u : Int) := by
  have e56 : 2 ^ (7 * 8) = 72057594037927936 := rfl
  rw [e56] at h1
  have h3 : acc < 72057594037927936 := by omega
  have h4 := or_add (acc := acc) (x := v) (s := 56) h3
  have e : (v : Int) * 72057594037927936 = ((v * 72057594037927936 : Nat) : Int) := by omega
  rw [e, bits_or_u64_nat _ _ (by omega) (by omega)]
  have e2 : (2 : Nat) ^ 56 = 72057594037927936 := rfl
  rw [e2] at h4
  rw [h4]
  omega

set_option maxHeartbeats 400000 in
set_option maxRecDepth 100000 in
theorem decode_any (a : Option Addr) (n c : Nat) (u : Nat) (rest : List Nat) (w : World) (h : SlB w a n c (enc 8 u ++ rest)) (hu : u < 18446744073709551616) (hn : n ≤ 9223372036854775807) :
    Calls Try.prog 12 #[.slice a n c] w fun e w' => e = .returned (.tuple #[.int .u64 (u : Nat), .int .i64 (((enc 8 u).length : Nat) : Int), .bool true]) ∧ w = w' := by
  have hpos : 0 < n := by
    have h1 := (enc_len 8 u).1
    have h2 := h.len
    rw [List.length_append] at h2
    omega
  obtain ⟨b, off, rfl, hc⟩ := h.cells.resolve_left (by omega)
  have hl := h.len
  have HA := at_start u rest
  obtain ⟨L, hL⟩ : ∃ L, L = (enc 8 u).length := ⟨_, rfl⟩
  obtain ⟨p, hp⟩ : ∃ p, p = enc 8 u ++ rest := ⟨_, rfl⟩
  rw [← hp] at hc hl HA
  rw [← hL] at HA ⊢
  clear h hL hp
  have HL : Hid (p.length = n) := hl
  clear hl
  go_enter Try.func12, Try.ntmps12
  go_wp2
  go_loopg [5, 6] 8 (fun gh s5 s6 wr => ∃ i acc : Nat, i ≤ 8 ∧ gh = 8 - i ∧ s5 = .int .u64 (acc : Nat) ∧ s6 = .int .i64 (i : Nat) ∧ acc = u % 2 ^ (7 * i) ∧ At p u L i ∧ w = wr)
  case atStart => exact ⟨0, 0, by omega, rfl, rfl, rfl, by simp [Nat.mod_one], HA, rfl⟩
  case round =>
    obtain ⟨i, acc, hi, rfl, rfl, rfl, hacc, hat, rfl⟩ := hrel
    clear HA
    have HC : Hid (acc = u % 2 ^ (7 * i)) := hacc
    have HT : Hid (At p u L i) := hat
    clear hacc hat
    by_cases hi8 : i < 8
    · obtain ⟨v, hv⟩ : ∃ v, v = u / 2 ^ (7 * i) := ⟨_, rfl⟩
      have HV : Hid (v = u / 2 ^ (7 * i)) := hv
      clear hv
      by_cases hlt : v < 128
      · obtain ⟨g1, g2, g3⟩ := at_last hi8 HT.out (by rw [← HV.out]; exact hlt)
        rw [HL.out] at g2
        have HL2 : Hid (L = i + 1) := g3
        have d1 : w.cell? ⟨b, off + i, none⟩ = some (.int .u8 (v : Nat)) := by rw [hc i g2, g1, HV.out]
        have e1 : bits BinOp.and IntKind.u8 (v : Int) 127 = (v : Int) := by rw [and127 (by omega), Nat.mod_eq_of_lt hlt]
        have hlz : (v : Int) < 128 := by omega
        have hiz : (i : Int) < 8 := by omega
        have hin : (i : Int) < (n : Int) := by omega
        clear g1 g3 hc
        go_wp2
        go_ret3
        refine ⟨ret3 ((or_shl hi8 hlt (by rw [HC.out]; exact Nat.mod_lt _ (Nat.two_pow_pos _))).trans ?_) (by rw [HL2.out]; omega), rfl⟩
        rw [HC.out, HV.out, split_last]
      · obtain ⟨g1, g2, g3⟩ := at_more hi8 HT.out (by rw [← HV.out]; exact hlt)
        rw [HL.out] at g2
        obtain ⟨x, hx⟩ : ∃ x, x = v % 128 := ⟨_, rfl⟩
        have HX : Hid (x = v % 128) := hx
        have hx128 : x < 128 := by rw [hx]; exact Nat.mod_lt _ (by omega)
        rw [← HV.out, ← hx] at g1
        have d1 : w.cell? ⟨b, off + i, none⟩ = some (.int .u8 ((x + 128 : Nat) : Int)) := by rw [hc i g2, g1]
        have e1 : bits BinOp.and IntKind.u8 ((x + 128 : Nat) : Int) 127 = (x : Int) := by rw [and127 (by omega)]; omega
        have hlz : ¬ ((x + 128 : Nat) : Int) < 128 := by omega
        have hiz : (i : Int) < 8 := by omega
        have hin : (i : Int) < (n : Int) := by omega
        obtain ⟨cc, hcc⟩ : ∃ cc, cc = x + 128 := ⟨_, rfl⟩
        rw [← hcc] at d1 e1 hlz
        have hcl : cc < 256 := by omega
        clear g1 hx hcc hlt
        have HG : Hid (∀ i, i < n → w.cell? ⟨b, off + i, none⟩ = some (.int .u8 ((p.getD i 0 : Nat) : Int))) := hc
        clear hc
        go_wp2
        go_roundg (8 - (i + 1))
        case measure => go_light; omega
        case rel =>
          go_light
          refine ⟨i + 1, acc + x * 2 ^ (7 * i), by omega, rfl, congrArg (Value.int .u64) (or_shl hi8 hx128 (by rw [HC.out]; exact Nat.mod_lt _ (Nat.two_pow_pos _))), by go_num, ?_, g3, rfl⟩
          rw [HC.out, HX.out, HV.out, split_more]
    · have e : i = 8 := by omega
      subst e
      obtain ⟨g1, g2, g3⟩ := at_end HT.out
      rw [HL.out] at g2
      obtain ⟨v, hv⟩ : ∃ v, v = u / 72057594037927936 % 256 := ⟨_, rfl⟩
      have HV : Hid (v = u / 72057594037927936 % 256) := hv
      have hv256 : v < 256 := by rw [hv]; exact Nat.mod_lt _ (by omega)
      rw [← hv] at g1
      have d1 : w.cell? ⟨b, off + 8, none⟩ = some (.int .u8 (v : Nat)) := by rw [hc 8 g2, g1]
      have hin : (8 : Int) < (n : Int) := by omega
      have hin2 : ¬ (n : Int) < 9 := by omega
      have HL2 : Hid (L = 9) := g3
      clear hc g1 g3 hv
      go_wp2
      go_ret3
      exact ⟨ret3 (or_last hu HC.out HV.out) (by rw [HL2.out]; rfl), rfl⟩
end Go.Proofs.Qxb6605262a
