import Derived.Test.Qxb6605262aDoorSign
namespace Go.Proofs.Qxb6605262aDoor
open Go.RowKit Go.Sort Go.Lib
set_option linter.unusedVariables false

theorem zz4 (t : Int) (u : Int) (s : ByteArray) (w : World) (hs : s.size ≤ 9223372036854775807) :
    Calls Tryd.prog 4 #[.int .u8 t, .int .u64 u, .string s] w fun e w' => (e = .returned (.bool true) ∨ e = .returned (.bool false)) ∧ w = w' := by
  go_enter Tryd.func4, Tryd.ntmps4
  by_cases h : (s.size : Int) > 1048576
  · go_wp2
    go_ret; exact ⟨.inr rfl, rfl⟩
  · go_wp2
    go_ret; exact ⟨.inl rfl, rfl⟩

theorem mk5 (t : Int) (u : Int) (s : ByteArray) (w : World) :
    Calls Tryd.prog 5 #[.int .u8 t, .int .u64 u, .string s] w fun e w' => e = .returned (.agg #[.int .u8 t, .int .u64 u, .string s]) ∧ w' = w.alloc (.cells #[.int .u8 t, .int .u64 u, .string s] 26) := by
  go_enter Tryd.func5, Tryd.ntmps5
  go_wp2
  exact bodyPost_ret (v := .agg #[.int .u8 t, .int .u64 u, .string s]) (by simp [results, Tryd.results5, go_sem]) rfl ⟨rfl, rfl⟩

theorem toL (l : List UInt8) : (⟨l.toArray⟩ : ByteArray).data.toList = l := by simp

set_option maxHeartbeats 1600000 in
set_option maxRecDepth 100000 in
theorem law (t : Int) (u : Nat) (s : ByteArray) (w : World) (htab : Tab w) (hu64 : u < 18446744073709551616) (hs : s.size ≤ 9223372036854775807) :
    Calls Tryd.prog 3 #[.int .u8 t, .int .u64 (u : Nat), .string s] w fun e w' => e = .returned (.bool true) ∧ Below w.heap.size w w' := by
  go_enter Tryd.func3, Tryd.ntmps3
  go_wp2_with fail
  refine (zz4 t u s w hs).mono ?_
  rintro e w' ⟨rfl | rfl, rfl⟩
  case inr => go_wp2; go_ret; exact ⟨rfl, Below.refl _ _⟩
  by_cases hbig : (s.size : Int) > 1048576
  · go_wp2; go_ret; exact ⟨rfl, Below.refl _ _⟩
  by_cases h0 : t = 0
  · subst h0
    go_wp2; go_ret; exact ⟨rfl, Below.refl _ _⟩
  by_cases h4 : t = 4
  · subst h4
    go_wp2; go_ret; exact ⟨rfl, Below.refl _ _⟩
  have x0 : (t == 0) = false := beq_eq_false_iff_ne.2 h0
  have x4 : (t == 4) = false := beq_eq_false_iff_ne.2 h4
  go_wp2_with fail
  refine (mk5 t u s w).mono ?_
  rintro e w' ⟨rfl, rfl⟩
  have hb1 := below_new w (.cells #[.int .u8 t, .int .u64 (u : Int), .string s] 26)
  have ht1 : Tab (w.alloc (.cells #[.int .u8 t, .int .u64 (u : Int), .string s] 26)) := Lib.tabIs_alloc htab _
  obtain ⟨w1, hw1⟩ : ∃ w1, w1 = w.alloc (.cells #[.int .u8 t, .int .u64 (u : Int), .string s] 26) := ⟨_, rfl⟩
  rw [← hw1] at hb1 ht1 ⊢
  clear hw1
  by_cases h3 : t = 3
  · subst h3
    by_cases hp : u ≤ 9223372036854775807
    · go_wp2_with fail
      refine (string_int (u : Int) u s w1 ht1 (by rw [IntKind.wrap_i64]; omega) (by omega) (by omega)).mono ?_
      rintro e w2 ⟨rfl, hb2⟩
      obtain ⟨S, hS⟩ : ∃ S : ByteArray, S = ⟨(Lib.itoa (u : Int)).toArray⟩ := ⟨_, rfl⟩
      have HS : Hid (S.data.toList = decDigits u) := by show _ = _; rw [hS, toL, Lib.itoa_nonneg]
      rw [← hS]
      clear hS
      have hB := hb1.trans (hb2.mono hb1.size)
      go_wp2_with fail
      refine (parseS_pos S u hp w2 HS.out).mono ?_
      rintro e w' ⟨rfl, rfl⟩
      clear hb1 hb2 ht1
      go_wp2
      go_ret
      exact ⟨rfl, hB⟩
    · obtain ⟨m, hm⟩ : ∃ m, m = 18446744073709551616 - u := ⟨_, rfl⟩
      have hm1 : 1 ≤ m := by omega
      have hm2 : m ≤ 9223372036854775808 := by omega
      have hm3 : 18446744073709551616 - m = u := by omega
      go_wp2_with fail
      refine (string_int (-(m : Int)) u s w1 ht1 (by rw [IntKind.wrap_i64]; omega) (by omega) (by omega)).mono ?_
      rintro e w2 ⟨rfl, hb2⟩
      obtain ⟨S, hS⟩ : ∃ S : ByteArray, S = ⟨(Lib.itoa (-(m : Int))).toArray⟩ := ⟨_, rfl⟩
      have HS : Hid (S.data.toList = 45 :: decDigits m) := by show _ = _; rw [hS, toL, Lib.itoa_neg m hm1]
      rw [← hS]
      clear hS
      have hB := hb1.trans (hb2.mono hb1.size)
      go_wp2_with fail
      refine (parseS_neg S m hm1 hm2 w2 HS.out).mono ?_
      rintro e w' ⟨rfl, rfl⟩
      rw [hm3]
      clear hb1 hb2 ht1 hm hm1 hm2 hm3
      go_wp2
      go_ret
      exact ⟨rfl, hB⟩
  · have x3 : (t == 3) = false := beq_eq_false_iff_ne.2 h3
    go_wp2_with fail
    refine (string_other t u s w1 ht1 hu64 h0 h3 h4).mono ?_
    rintro e w2 ⟨rfl, hb2⟩
    have hB := hb1.trans (hb2.mono hb1.size)
    obtain ⟨S, hS⟩ : ∃ S : ByteArray, S = ⟨(Lib.decDigits u).toArray⟩ := ⟨_, rfl⟩
    have HS : Hid (S.data.toList = decDigits u) := by show _ = _; rw [hS, toL]
    rw [← hS]
    clear hS
    go_wp2_with fail
    refine (parseU S u hu64 w2 HS.out).mono ?_
    rintro e w' ⟨rfl, rfl⟩
    clear hb1 hb2 ht1
    go_wp2
    go_ret
    exact ⟨rfl, hB⟩
end Go.Proofs.Qxb6605262aDoor
