import Derived.Test.Qxb6605219aSame
namespace Go.Proofs.Qxb6605219a
open Go.RowKit
set_option linter.unusedVariables false

theorem Try.size2 (w : World) : (sizeOf 2).run Try.prog w = .ok 1 w := by kernel_rfl
theorem Try.elem22 : Try.prog.elem 22 = 2 := by kernel_rfl

theorem Try.slice22 : Try.prog.underlying 22 = some (.slice (Try.prog.elem 22)) := by rw [Try.elem22]; exact Try.underlying22

/-- 's[lo:]' of a slice that can be read. -/
theorem slice_lo {w : World} {a : Option Addr} {n c : Nat} {zs : List Int} (h : Sl w a n c zs) (lo : Nat) (hlo : lo ≤ n) :
    ∃ a', (∀ w, (Instr.slice 22 (.slice a n c) (some (.int .i64 (lo : Int))) none none).run Try.prog w = .ok (.slice a' (n - lo) (c - lo)) w) ∧ Sl w a' (n - lo) (c - lo) (zs.drop lo) := by
  refine ⟨if c = lo then a else a.map (·.add (lo * 1)), fun w => ?_, ?_, ?_, ?_, ?_⟩
  · rw [run_slice_l w 22 a n c Try.slice22 .i64 lo (by omega) (by omega), Try.elem22, Try.size2]
    simp [Result.andThen, sliced]
  · rw [List.length_drop, h.len]
  · have := h.le; omega
  · intro e
    have hn : a = none := by
      split at e
      · exact e
      · simpa using e
    obtain ⟨h1, h2⟩ := h.nil hn
    omega
  · rcases h.cells with h0 | ⟨b, off, rfl, hc⟩
    · exact .inl (by omega)
    · by_cases e : n = lo
      · exact .inl (by omega)
      · refine .inr ⟨b, off + lo, ?_, fun i hi => ?_⟩
        · rw [if_neg (by have := h.le; omega)]; simp [Addr.add]
        · rw [Nat.add_assoc, hc (lo + i) (by omega)]; simp

/-- 's[:m:m]' of a slice that can be read. -/
theorem slice_hm {w : World} {a : Option Addr} {n c : Nat} {zs : List Int} (h : Sl w a n c zs) (m : Nat) (hm : m ≤ n) :
    ∃ a', (∀ w, (Instr.slice 22 (.slice a n c) none (some (.int .i64 (m : Int))) (some (.int .i64 (m : Int)))).run Try.prog w = .ok (.slice a' m m) w) ∧ Sl w a' m m (zs.take m) := by
  refine ⟨if m = 0 then a else a.map (·.add (0 * 1)), fun w => ?_, ?_, ?_, ?_, ?_⟩
  · have := h.le
    rw [run_slice_hm w 22 a n c Try.slice22 .i64 .i64 m m (by omega) (by omega) (by omega), Try.elem22, Try.size2]
    simp [Result.andThen, sliced]
  · rw [List.length_take, h.len]; omega
  · omega
  · intro e
    have hn : a = none := by
      split at e
      · exact e
      · simpa using e
    obtain ⟨h1, h2⟩ := h.nil hn
    omega
  · rcases h.cells with h0 | ⟨b, off, rfl, hc⟩
    · exact .inl (by omega)
    · by_cases e : m = 0
      · exact .inl e
      · refine .inr ⟨b, off, ?_, fun i hi => ?_⟩
        · rw [if_neg e]; simp [Addr.add]
        · rw [hc i (by omega)]; simp [hi]

def endB (zs ys : List Int) : Bool := if zs.length < ys.length then false else eqB (zs.drop (zs.length - ys.length)) ys

set_option maxHeartbeats 400000 in
theorem ends_any (a : Option Addr) (n c : Nat) (zs : List Int) (b : Option Addr) (m d : Nat) (ys : List Int) (w : World) (h1 : Sl w a n c zs) (h2 : Sl w b m d ys) (hn : n ≤ 1048576) :
    Calls Try.prog 9 #[.slice a n c, .slice b m d] w fun e w' => e = .returned (.bool (endB zs ys)) ∧ Below w.heap.size w w' := by
  by_cases hlt : n < m
  · have e0 : endB zs ys = false := by unfold endB; rw [if_pos (by rw [h1.len, h2.len]; exact hlt)]
    rw [e0]
    clear h1 h2 e0
    go_enter Try.func9, Try.ntmps9
    go_wp2
    go_ret
    exact ⟨rfl, Below.refl _ _⟩
  · have e0 : endB zs ys = eqB (zs.drop (n - m)) ys := by unfold endB; rw [if_neg (by rw [h1.len, h2.len]; exact hlt), h1.len, h2.len]
    rw [e0]
    obtain ⟨a', hrun, hS⟩ := slice_lo h1 (n - m) (by omega)
    have e1 : ((n - m : Nat) : Int) = (n : Int) - (m : Int) := by omega
    have e2 : n - (n - m) = m := by omega
    rw [e1, e2] at hrun
    rw [e2] at hS
    clear e1 e2 h1 e0
    go_enter Try.func9, Try.ntmps9
    go_wp2_with (go_at_call 10; refine (same_any _ _ _ _ _ _ _ _ _ hS h2 (by omega)).mono ?_; rintro e w' ⟨rfl, hb⟩)
    go_ret
    exact ⟨rfl, hb⟩
end Go.Proofs.Qxb6605219a
