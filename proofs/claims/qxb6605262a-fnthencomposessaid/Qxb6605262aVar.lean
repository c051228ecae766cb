import Derived.Test.Qxb6605262aCodec
import Derived.WalkSpells
import Derived.WalkLawsBesides
import Derived.WalkSmall
import Derived.Below
import Derived.ArgAppend
import Derived.Laws.CopyOwn
import Derived.Deep.LoopGhost
import Derived.Deep.OwnRows
import Derived.Deep.Light
import Derived.Deep.QuietTactic
import Derived.BigQuiet
namespace Go.Proofs.Qxb6605262a
open Go.RowKit
set_option linter.unusedVariables false

theorem ret_int {k : IntKind} {a b : Int} (h : a = b) : Ending.returned (.int k a) = .returned (.int k b) := by rw [h]
theorem ret_bool {a b : Bool} (h : a = b) : Ending.returned (.bool a) = .returned (.bool b) := by rw [h]

theorem zig_any (x : Int) (w : World) (h1 : -9223372036854775808 ≤ x) (h2 : x ≤ 9223372036854775807) :
    Calls Try.prog 10 #[.int .i64 x] w fun e w' => e = .returned (.int .u64 ((zig x : Nat) : Int)) ∧ w = w' := by
  by_cases h : 0 ≤ x
  · have e : ((zig x : Nat) : Int) = x * 2 := by unfold zig; rw [if_pos h]; omega
    rw [e]
    go_enter Try.func10, Try.ntmps10
    go_wp2
    go_ret
    exact ⟨rfl, rfl⟩
  · have e : ((zig x : Nat) : Int) = -(x + 1) * 2 + 1 := by unfold zig; rw [if_neg h]; omega
    have h3 : x < 0 := by omega
    rw [e]
    clear h
    go_enter Try.func10, Try.ntmps10
    go_wp2
    go_ret
    exact ⟨rfl, rfl⟩

theorem unzig_any (x : Int) (w : World) (h1 : -9223372036854775808 ≤ x) (h2 : x ≤ 9223372036854775807) :
    Calls Try.prog 15 #[.int .u64 ((zig x : Nat) : Int)] w fun e w' => e = .returned (.int .i64 x) ∧ w = w' := by
  have hl := zig_lt h1 h2
  by_cases h : zig x % 2 = 0
  · have e := zig_even h1 h2 h
    have ha : (bits BinOp.and IntKind.u64 ((zig x : Nat) : Int) 1 == 0) = true := by rw [and_one _ hl, h]; rfl
    obtain ⟨u, hu⟩ : ∃ u, u = zig x := ⟨_, rfl⟩
    rw [← hu] at e ha hl ⊢
    clear hu h
    have E : Hid ((u : Int) / 2 = x) := e
    clear e
    go_enter Try.func15, Try.ntmps15
    go_wp2
    go_ret
    exact ⟨ret_int E.out, rfl⟩
  · have e := zig_odd h1 h2 h
    have ha : (bits BinOp.and IntKind.u64 ((zig x : Nat) : Int) 1 == 0) = false := by
      rw [and_one _ hl, show zig x % 2 = 1 by omega]; rfl
    obtain ⟨u, hu⟩ : ∃ u, u = zig x := ⟨_, rfl⟩
    rw [← hu] at e ha hl ⊢
    clear hu h
    have E : Hid (-((u : Int) / 2) - 1 = x) := e
    clear e
    go_enter Try.func15, Try.ntmps15
    go_wp2
    go_ret
    exact ⟨ret_int E.out, rfl⟩

set_option maxHeartbeats 400000 in
theorem len_any (u : Nat) (w : World) (hu : u < 18446744073709551616) :
    Calls Try.prog 11 #[.int .u64 (u : Nat)] w fun e w' => e = .returned (.int .i64 (((enc 8 u).length : Nat) : Int)) ∧ w = w' := by
  go_enter Try.func11, Try.ntmps11
  go_wp2
  go_loopg [3, 4] u (fun gh s3 s4 wr => ∃ k v : Nat, v = gh ∧ s3 = .int .i64 (k : Nat) ∧ s4 = .int .u64 (v : Nat) ∧ v = u / 2 ^ k ∧ k ≤ 64 ∧ (k = 0 ∨ 2 ^ (k - 1) ≤ u) ∧ w = wr)
  case atStart => exact ⟨0, u, rfl, rfl, rfl, by simp, by omega, .inl rfl, rfl⟩
  case round =>
    obtain ⟨k, v, rfl, rfl, rfl, hv, hk, h0, rfl⟩ := hrel
    have HV : Hid (v = u / 2 ^ k) := hv
    have hvu : v ≤ u := by rw [hv]; exact Nat.div_le_self _ _
    have H0 : Hid (k = 0 ∨ 2 ^ (k - 1) ≤ u) := h0
    clear hv h0
    by_cases hz : v = 0
    · have HL : Hid (lenM k = (enc 8 u).length) := by
        refine len_enc ?_ H0.out
        have := HV.out
        rw [hz] at this
        exact (Nat.div_eq_zero_iff_lt (Nat.two_pow_pos k)).1 this.symm
      have hz' : ((v : Int) != 0) = false := by simp [hz]
      clear hz
      by_cases c1 : (k + 6) / 7 = 0
      · have HR : Hid (1 = (enc 8 u).length) := by
          have := HL.out; unfold lenM at this; rw [if_pos c1] at this; exact this
        have c1' : (((k : Int) + 6) / 7 == 0) = true := by simp; omega
        clear c1
        go_wp2
        go_ret
        exact ⟨ret_int (by rw [← HR.out]; rfl), rfl⟩
      · have c1' : (((k : Int) + 6) / 7 == 0) = false := by simp; omega
        by_cases c2 : 9 < (k + 6) / 7
        · have HR : Hid (9 = (enc 8 u).length) := by
            have := HL.out; unfold lenM at this; rw [if_neg c1, if_pos c2] at this; exact this
          have c2' : (9 : Int) < ((k : Int) + 6) / 7 := by omega
          clear c1 c2
          go_wp2
          go_ret
          exact ⟨ret_int (by rw [← HR.out]; rfl), rfl⟩
        · have HR : Hid ((k + 6) / 7 = (enc 8 u).length) := by
            have := HL.out; unfold lenM at this; rw [if_neg c1, if_neg c2] at this; exact this
          have c2' : ¬ (9 : Int) < ((k : Int) + 6) / 7 := by omega
          clear c1 c2
          go_wp2
          go_ret
          exact ⟨ret_int (by rw [← HR.out]; omega), rfl⟩
    · have hz' : ((v : Int) != 0) = true := by simp [hz]
      have hle : 2 ^ k ≤ u := by
        have h1 := HV.out
        have h2 : ¬ u < 2 ^ k := fun h => hz (by rw [h1]; exact Nat.div_eq_of_lt h)
        omega
      have hk64 : k < 64 := pow_lt_iff.1 (Nat.lt_of_le_of_lt hle (by simpa using hu))
      have HLE : Hid (2 ^ k ≤ u) := hle
      clear hle
      go_wp2
      go_roundg (v / 2)
      case measure => go_light; omega
      case rel =>
        go_light
        refine ⟨k + 1, v / 2, rfl, by go_num, by go_num, ?_, by omega, .inr HLE.out, rfl⟩
        rw [HV.out, Nat.div_div_eq_div_mul, Nat.pow_succ]
end Go.Proofs.Qxb6605262a
