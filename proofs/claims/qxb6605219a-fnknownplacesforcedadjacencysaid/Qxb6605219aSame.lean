import Derived.Test.Qxb6605219aInts
import Derived.WalkSmall
namespace Go.Proofs.Qxb6605219a
open Go.RowKit
set_option linter.unusedVariables false

/-- The two lists are equal as far as their first k elements. -/
def UpTo (zs ys : List Int) (k : Nat) : Prop := ∀ j, j < k → zs[j]?.getD 0 = ys[j]?.getD 0

def eqB (zs ys : List Int) : Bool := decide (zs = ys)

theorem eqB_len {zs ys : List Int} (h : zs.length ≠ ys.length) : eqB zs ys = false := by
  simp only [eqB, decide_eq_false_iff_not]; intro e; exact h (by rw [e])

theorem eqB_all {zs ys : List Int} {n : Nat} (h1 : zs.length = n) (h2 : ys.length = n) (h : UpTo zs ys n) : eqB zs ys = true := by
  simp only [eqB, decide_eq_true_eq]
  refine List.ext_getElem (by omega) fun i hi hj => ?_
  have := h i (by omega)
  simpa [hi, hj] using this

theorem eqB_not {zs ys : List Int} {k : Nat} (h : zs[k]?.getD 0 ≠ ys[k]?.getD 0) : eqB zs ys = false := by
  simp only [eqB, decide_eq_false_iff_not]; intro e; exact h (by rw [e])

theorem upTo_succ {zs ys : List Int} {k : Nat} (h : UpTo zs ys k) (e : zs[k]?.getD 0 = ys[k]?.getD 0) : UpTo zs ys (k + 1) := by
  intro j hj
  by_cases e' : j = k
  · subst e'; exact e
  · exact h j (by omega)

theorem ret_bool {a b : Bool} (h : a = b) : Ending.returned (.bool a) = .returned (.bool b) := by rw [h]

set_option maxHeartbeats 400000 in
theorem same_any (a : Option Addr) (n c : Nat) (zs : List Int) (b : Option Addr) (m d : Nat) (ys : List Int) (w : World) (h1 : Sl w a n c zs) (h2 : Sl w b m d ys) (hn : n ≤ 1048576) :
    Calls Try.prog 10 #[.slice a n c, .slice b m d] w fun e w' => e = .returned (.bool (eqB zs ys)) ∧ Below w.heap.size w w' := by
  by_cases hnm : n = m
  · subst hnm
    by_cases h0 : n = 0
    · subst h0
      have e0 : eqB zs ys = true := eqB_all h1.len h2.len (fun j hj => absurd hj (Nat.not_lt_zero _))
      rw [e0]
      clear h1 h2 e0
      go_enter Try.func10, Try.ntmps10
      go_wp2
      refine wp_loop_rounds 1 ?_
      rw [rounds_succ]
      go_wp2
      go_ret
      exact ⟨rfl, Below.refl _ _⟩
    · obtain ⟨ba, oa, rfl, hca⟩ := h1.cells.resolve_left h0
      obtain ⟨bb, ob, rfl, hcb⟩ := h2.cells.resolve_left h0
      have HL : Hid (zs.length = n ∧ ys.length = n) := ⟨h1.len, h2.len⟩
      clear h1 h2
      go_enter Try.func10, Try.ntmps10
      go_wp2
      go_loopg [5] n (fun g i wr => ∃ k : Nat, k ≤ n ∧ g = n - k ∧ i = .int .i64 k ∧ Below w.heap.size w wr ∧ UpTo zs ys k)
      case atStart => exact ⟨0, Nat.zero_le _, rfl, rfl, Below.refl _ _, fun j hj => absurd hj (Nat.not_lt_zero _)⟩
      case round =>
        obtain ⟨k, hk, rfl, rfl, hB, hU⟩ := hrel
        have HU : Hid (UpTo zs ys k) := hU
        clear hU
        by_cases hlt : k < n
        · have g0 : wr.cell? ⟨ba, oa + k, none⟩ = some (.int .i64 (zs.getD k 0)) := cell_later hB (hca k hlt)
          have g1 : wr.cell? ⟨bb, ob + k, none⟩ = some (.int .i64 (ys.getD k 0)) := cell_later hB (hcb k hlt)
          have hz : (k : Int) < (n : Int) := by omega
          clear hca hcb
          by_cases he : zs[k]?.getD 0 = ys[k]?.getD 0
          · have HE : Hid (zs[k]?.getD 0 = ys[k]?.getD 0) := he
            have he' : (zs[k]?.getD 0 != ys[k]?.getD 0) = false := by simp [he]
            clear he
            go_wp2
            go_region
            go_wp2
            go_roundg (n - (k + 1))
            case measure => go_light; omega
            case rel => go_light; exact ⟨k + 1, by omega, rfl, by go_num, hB.drew, upTo_succ HU.out HE.out⟩
          · have HE : Hid (zs[k]?.getD 0 ≠ ys[k]?.getD 0) := he
            have he' : (zs[k]?.getD 0 != ys[k]?.getD 0) = true := by simp [he]
            clear he
            go_wp2
            go_region
            go_wp2
            go_ret
            exact ⟨ret_bool (eqB_not HE.out).symm, hB.drew⟩
        · go_wp2
          go_ret
          have e : k = n := by omega
          subst e
          exact ⟨ret_bool (eqB_all HL.out.1 HL.out.2 HU.out).symm, hB⟩
  · have e0 : eqB zs ys = false := eqB_len (by rw [h1.len, h2.len]; exact hnm)
    rw [e0]
    clear h1 h2 e0
    go_enter Try.func10, Try.ntmps10
    go_wp2
    go_ret
    exact ⟨rfl, Below.refl _ _⟩
end Go.Proofs.Qxb6605219a
