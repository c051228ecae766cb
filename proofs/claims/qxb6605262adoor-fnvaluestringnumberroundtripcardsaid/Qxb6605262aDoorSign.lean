import Derived.Test.Qxb6605262aDoorParse
namespace Go.Proofs.Qxb6605262aDoor
open Go.RowKit Go.Sort Go.Lib
set_option linter.unusedVariables false

set_option maxHeartbeats 1600000 in
set_option maxRecDepth 100000 in
theorem parseS_pos (s : ByteArray) (u : Nat) (hu : u ≤ 9223372036854775807) (w : World) (h : s.data.toList = decDigits u) :
    Calls Tryd.prog 7 #[.string s] w fun e w' => e = .returned (.tuple #[.int .u64 (u : Nat), .bool true]) ∧ w = w' := by
  have hsz : s.size = nDigits u := by rw [← decDigits_length, ← h]; simp
  have hnd20 : Lib.nDigits u ≤ 20 := Lib.nDigits_le20 u (by omega)
  have hnd1 := nDigits_pos u
  have e0 := digit_at h (i := 0) (by omega) (by omega)
  obtain ⟨n, hn⟩ : ∃ n, n = nDigits u := ⟨_, rfl⟩
  obtain ⟨d, hd⟩ : ∃ d, d = dgt u 0 := ⟨_, rfl⟩
  rw [← hd] at e0
  rw [← hn] at hsz hnd20 hnd1
  have x1 : (0 : Int) < (n : Int) := by omega
  have x4 : ((48 + (d : Int)) == 45) = false := beq_eq_false_iff_ne.2 (by omega)
  have HH : Hid (s.data.toList = decDigits u) := h
  clear hn hd h
  go_enter Tryd.func7, Tryd.ntmps7
  go_wp2_with fail
  refine (parseU s u (by omega) w HH.out).mono ?_
  rintro e w' ⟨rfl, rfl⟩
  have x5 : ¬ (u : Int) > 9223372036854775807 := by omega
  go_wp2
  go_ret2
  exact ⟨rfl, rfl⟩

set_option maxHeartbeats 1600000 in
set_option maxRecDepth 100000 in
theorem parseS_neg (s : ByteArray) (u : Nat) (hu1 : 1 ≤ u) (hu : u ≤ 9223372036854775808) (w : World) (h : s.data.toList = 45 :: decDigits u) :
    Calls Tryd.prog 7 #[.string s] w fun e w' => e = .returned (.tuple #[.int .u64 ((18446744073709551616 - u : Nat) : Int), .bool true]) ∧ w = w' := by
  have hsz : s.size = nDigits u + 1 := by
    have : s.data.toList.length = nDigits u + 1 := by rw [h, List.length_cons, decDigits_length]
    simpa using this
  have hnd20 : Lib.nDigits u ≤ 20 := Lib.nDigits_le20 u (by omega)
  have hs0 : 0 < s.size := by omega
  have e0 : (s[0].toNat : Int) = 45 := by
    have h1 : s[0] = s.data.toList[0]'(by simpa using hs0) := by simp; rfl
    rw [h1]
    simp only [h]
    rfl
  obtain ⟨n, hn⟩ : ∃ n, n = nDigits u := ⟨_, rfl⟩
  rw [← hn] at hsz hnd20
  have x1 : (0 : Int) < ((n + 1 : Nat) : Int) := by omega
  have HH : Hid (s.data.toList = 45 :: decDigits u) := h
  clear hn h
  go_enter Tryd.func7, Tryd.ntmps7
  have hex : (s.extract 1 (n + 1)).data.toList = decDigits u := by
    have h1 : (s.extract 1 (n + 1)).data.toList = List.take n s.data.toList.tail := by simp
    have h2 : s.data.toList.length = n + 1 := by rw [← hsz]; simp
    rw [HH.out, List.length_cons] at h2
    rw [h1, HH.out, List.tail_cons, List.take_of_length_le (by omega)]
  have x2 : ((u : Int) == 0) = false := beq_eq_false_iff_ne.2 (by omega)
  have x3 : ¬ (u : Int) > 9223372036854775808 := by omega
  have HX : Hid ((s.extract 1 (n + 1)).data.toList = decDigits u) := hex
  clear hex
  go_wp2_with fail
  refine (parseU _ u (by omega) w HX.out).mono ?_
  rintro e w' ⟨rfl, rfl⟩
  go_wp2
  go_ret2
  refine ⟨?_, rfl⟩
  have hwr : IntKind.u64.wrap (-(u : Int)) = ((18446744073709551616 - u : Nat) : Int) := by rw [IntKind.wrap_u64]; omega
  show Ending.returned (.tuple #[.int .u64 (IntKind.u64.wrap (-(u : Int))), .bool true]) = _
  rw [hwr]

abbrev Tab (w : World) : Prop := Lib.TabIs Tryd.prog w "internal/strconv.uint64pow10" .u64 Lib.pow10Tab

theorem fmtUint (u : Nat) (hu64 : u < 18446744073709551616) (w : World) (htab : Tab w) :
    Calls Tryd.prog 10 #[.int .u64 (u : Nat), .int .i64 10] w fun e w' => e = .returned (.string ⟨(Lib.decDigits u).toArray⟩) ∧ Below w.heap.size w w' := by
  go_enter Tryd.func10, Tryd.ntmps10
  go_wp2_with fail
  refine (fmtU u hu64 w htab).mono ?_
  rintro e w' ⟨rfl, hb⟩
  go_wp2
  go_ret
  exact ⟨rfl, hb⟩

theorem fmtInt (n : Int) (h0 : -9223372036854775808 ≤ n) (h1 : n ≤ 9223372036854775807) (w : World) (htab : Tab w) :
    Calls Tryd.prog 9 #[.int .i64 n, .int .i64 10] w fun e w' => e = .returned (.string ⟨(Lib.itoa n).toArray⟩) ∧ Below w.heap.size w w' := by
  go_enter Tryd.func9, Tryd.ntmps9
  go_wp2_with fail
  refine (Tryd.internal_strconv_FormatInt_10 n h0 h1 w htab).mono ?_
  rintro e w' ⟨rfl, k, os, rfl⟩
  have hb := below_grow _ w (Nat.le_refl _) k os
  go_wp2
  go_ret
  exact ⟨rfl, hb⟩

theorem below_new (w : World) (o : Obj) : Below w.heap.size w (w.alloc o) := (Below.refl _ _).alloc (Nat.le_refl _) _
theorem below_two {w w' : World} {o : Obj} (h : Below (w.alloc o).heap.size (w.alloc o) w') : Below w.heap.size w w' := (below_new w o).trans (h.mono (by simp))

set_option maxRecDepth 100000 in
theorem string_other (t : Int) (u : Nat) (s : ByteArray) (w : World) (htab : Tab w) (hu64 : u < 18446744073709551616) (h0 : t ≠ 0) (h3 : t ≠ 3) (h4 : t ≠ 4) :
    Calls Tryd.prog 6 #[.agg #[.int .u8 t, .int .u64 (u : Nat), .string s]] w fun e w' => e = .returned (.string ⟨(Lib.decDigits u).toArray⟩) ∧ Below w.heap.size w w' := by
  have x0 : (t == 0) = false := beq_eq_false_iff_ne.2 h0
  have x3 : (t == 3) = false := beq_eq_false_iff_ne.2 h3
  have x4 : (t == 4) = false := beq_eq_false_iff_ne.2 h4
  go_enter Tryd.func6, Tryd.ntmps6
  go_wp2_with fail
  refine (fmtUint u hu64 _ (Lib.tabIs_alloc htab _)).mono ?_
  rintro e w' ⟨rfl, hb⟩
  have hb' := below_two hb
  clear hb
  go_wp2
  go_ret
  exact ⟨rfl, hb'⟩

set_option maxRecDepth 100000 in
theorem string_int (n : Int) (u : Nat) (s : ByteArray) (w : World) (htab : Tab w) (hn : IntKind.i64.wrap (u : Int) = n) (h0 : -9223372036854775808 ≤ n) (h1 : n ≤ 9223372036854775807) :
    Calls Tryd.prog 6 #[.agg #[.int .u8 3, .int .u64 (u : Nat), .string s]] w fun e w' => e = .returned (.string ⟨(Lib.itoa n).toArray⟩) ∧ Below w.heap.size w w' := by
  go_enter Tryd.func6, Tryd.ntmps6
  go_wp2_with fail
  try rw [hn]
  refine (fmtInt n h0 h1 _ (Lib.tabIs_alloc htab _)).mono ?_
  rintro e w' ⟨rfl, hb⟩
  have hb' := below_two hb
  clear hb
  go_wp2
  go_ret
  exact ⟨rfl, hb'⟩
end Go.Proofs.Qxb6605262aDoor
